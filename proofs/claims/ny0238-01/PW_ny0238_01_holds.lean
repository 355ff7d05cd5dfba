import PyProof.Rows.All
import Wide.All
import OpenK.AllK
import Wide.FinOn
import PySem.Challenge.RW_ny0238_01
set_option Elab.async false
set_option maxRecDepth 100000
set_option maxHeartbeats 4000000
set_option linter.unusedVariables false
set_option linter.unusedSimpArgs false
section
namespace Mine
open PySem PyProof.Rows
theorem hG {G : Prop} (h : ∀ P : Prop, (G → P) → P) : G := h G id
theorem mI {α : Type} {l : List α} {x : α} (i : Nat) (h : l[i]? = some x) : x ∈ l := List.mem_of_getElem? h
/-- the continuations stand behind names of their own -/
theorem qE {α : Type} {M : Model} {A : Around} {t : Sem α} {Q : α → Shared → Prop} {E : Value → Shared → Prop} {s : Shared}
    (h : ∀ (Q' : α → Shared → Prop) (E' : Value → Shared → Prop), (∀ a s, Q a s → Q' a s) → wpAny M A t Q' E' s) : wpAny M A t Q E s := h Q E fun _ _ x => x
/-- what comes after a statement, under one name -/
noncomputable abbrev seqK (M : Model) (A : Around) (rest : List Stmt) (env : Env) (Q : Flow → Shared → Prop) (E : Value → Shared → Prop) (f : Flow) (s : Shared) : Prop :=
  match f with
  | .next => wpAny M A (execs rest env) Q E s
  | f => Q f s
theorem sK {M : Model} {A : Around} {st : Stmt} {rest : List Stmt} {env : Env} {Q : Flow → Shared → Prop} {E : Value → Shared → Prop} {s : Shared} (h : wpAny M A (exec st env) (seqK M A rest env Q E) E s) : wpAny M A (execs (st :: rest) env) Q E s :=
  wpAny_execs_cons h
theorem nI {α β : Type} {g : α → β} {l : List α} {p q : α} {a : β} (n : (a :: l.map g).Nodup) (i j : Nat) (hi : l[i]? = some p) (hj : l[j]? = some q) (h : (i == j) = false) : g p ≠ g q := by
  intro e
  have := (List.getElem?_inj (i := i) (j := j) (by rw [List.length_map]; exact (List.getElem?_eq_some_iff.mp hi).1) (List.nodup_cons.mp n).2).mp (by rw [List.getElem?_map, List.getElem?_map, hi, hj]; exact congrArg some e)
  rw [this] at h; simp at h
theorem nD {α β : Type} {g : α → β} {l l' : List α} {p : α} {a y : β} (n : (a :: (l ++ l').map g).Nodup) (i : Nat) (hi : l[i]? = some p) (hy : y ∈ l'.map g) : y ≠ g p := by
  have := (List.nodup_cons.mp n).2
  rw [List.map_append, List.nodup_append] at this
  exact fun e => this.2.2 _ (List.mem_map_of_mem (List.mem_of_getElem? hi)) _ hy e.symm
end Mine
end
section
namespace Mine
open PySem PySem.Spec PySem.W PySem.W.X PyProof.Rows PySem.Calls
open Sem (wp)
/-- as wpAny, where the claim's caller stands below -/
noncomputable def wpC {α : Type} (M : Model) (A : Around) (t : Sem α) (Q : α → Shared → Prop) (E : Value → Shared → Prop) (s : Shared) : Prop :=
  ∀ Γ p, Γ.In A → ((Γ.code :: Γ.below.map (·.1)).any Code.isCaller) = true → wp M Γ t (fun a _ s' => Q a s') (fun e _ s' => E e s') p s
noncomputable def codeC (M : Model) (A : Around) (c : Code) (R : Result → Shared → Prop) (s : Shared) : Prop :=
  ∀ Γ p, Γ.code = c → Γ.Below A → ((Γ.below.map (·.1)).any Code.isCaller) = true → wpCode M Γ R p s

noncomputable def ctx0 : PySem.Ctx := ⟨.builtin "claim.caller" {}, none, none, [], none⟩

theorem wpC_monoH {α : Type} {M : Model} {A : Around} {t : Sem α} {Q Q' : α → Shared → Prop} {E E' : Value → Shared → Prop} {s : Shared} (h : wpC M A t Q E s) (hQ : ∀ a s, Q a s → Q' a s) (hE : ∀ e s, E e s → E' e s) : wpC M A t Q' E' s :=
  fun Γ p hΓ hc => Sem.wp_mono M Γ t (fun a _ s => hQ a s) (fun e _ s => hE e s) p s (h Γ p hΓ hc)

theorem exM5 {α : Type} {a a' b c d e e' f : α → Prop} (h : ∃ v, a v ∧ b v ∧ c v ∧ d v ∧ e v ∧ f v) (ga : ∀ v, a v → a' v) (g : ∀ v, e v → e' v) : ∃ v, a' v ∧ b v ∧ c v ∧ d v ∧ e' v ∧ f v :=
  h.elim fun v x => ⟨v, ga v x.1, x.2.1, x.2.2.1, x.2.2.2.1, g v x.2.2.2.2.1, x.2.2.2.2.2⟩
theorem exM6 {α β γ : Type} {a a' b c d e f f' : α → β → γ → Prop} (h : ∃ x y z, a x y z ∧ b x y z ∧ c x y z ∧ d x y z ∧ e x y z ∧ f x y z) (ga : ∀ x y z, a x y z → a' x y z) (g : ∀ x y z, f x y z → f' x y z) : ∃ x y z, a' x y z ∧ b x y z ∧ c x y z ∧ d x y z ∧ e x y z ∧ f' x y z :=
  h.elim fun x h => h.elim fun y h => h.elim fun z q => ⟨x, y, z, ga x y z q.1, q.2.1, q.2.2.1, q.2.2.2.1, q.2.2.2.2.1, g x y z q.2.2.2.2.2⟩
theorem callFromC {c : ClaimW} {tree : List Value → Sem Fin} {w : World} {s : Shared} {free : Addr → Prop} {gens : Prop} {kept : Heap → Prop} (hz : s.asleep) (hgens : s.gens = #[])
    (hspec : ∀ args, c.pre args = true → WData.layableAll args = true → ∀ ord : List DictEntry → List DictEntry, (∀ l, (ord l).Perm l) →
      ∃ vs s₁, layAllW c.records (classAt s.heap) w.params ord args s = some (vs, s₁) ∧
        wpC (model c.prog w) callerA (tree vs) (fun fin s' => ∃ f, fin = .done f ∧ (c.Ends s args vs s₁ (.ok f) s' ∧ s'.os = s.os ∧ AllBare s'.gens ∧ kept s'.heap))
          (fun e s' => c.Ends s args vs s₁ (.error e) s' ∧ s'.os = s.os ∧ AllBare s'.gens ∧ kept s'.heap) s₁) :
    c.CallFrom (fun vs => ⟨tree vs, .builtin "claim.caller" {}, default, []⟩) w free gens kept s := by
  intro args hpre hlay ord hord
  refine hG fun zP zK => ?_
  obtain ⟨vs, s₁, laid, hcode⟩ := hspec args hpre hlay ord hord
  obtain ⟨_, _, _, hal⟩ := layAllW_rest _ _ _ laid
  refine zK ?_
  have hrun : wp (model c.prog w) ctx0 (tree vs) (Sem.finPost (model c.prog w) ctx0 fun r s' => (c.Ends s args vs s₁ r s' ∧ s'.os = s.os ∧ kept s'.heap) ∧ leftWithCleanup s'.gens = false)
      (fun e _ s' => (c.Ends s args vs s₁ (.error e) s' ∧ s'.os = s.os ∧ kept s'.heap) ∧ leftWithCleanup s'.gens = false) default s₁ := by
    refine Sem.wp_mono _ _ _ (fun fin p' s' h' => ?_) (fun e _ s' h' => ⟨⟨h'.1, h'.2.1, h'.2.2.2⟩, leftWithCleanup_false_of_bare h'.2.2.1⟩) _ _ (hcode ctx0 default caller_in rfl)
    obtain ⟨f, rfl, h'⟩ := h'
    exact ⟨⟨h'.1, h'.2.1, h'.2.2.2⟩, leftWithCleanup_false_of_bare h'.2.2.1⟩
  refine hG fun zP zK => ?_
  obtain ⟨k, r, si, sf, sched, run, fo, ends, os, kp⟩ := wp_halts_full (M := model c.prog w) (R := fun r s' => c.Ends s args vs s₁ r s' ∧ s'.os = s.os ∧ kept s'.heap) (Shared.asleep_of_life hal hz) hrun
  obtain ⟨eh, _, _, eo, _⟩ := Shared.forget_eq fo
  refine zK ?_
  have ends' := ClaimW.Ends.congr eh ends
  have life : sf.heap.life = s.heap.life := (runN_life _ _ _ run).trans hal
  have kp' : kept sf.heap := eh.symm ▸ kp
  refine ⟨vs, s₁, laid, k, _, sf, sched, ?_, (fun _ i x hx => by rw [hgens] at hx; simp at hx), kp', by rw [life], Shared.rest_eq (eo.trans os)⟩
  refine Or.imp (fun h => exM5 h ?_ ?_) (fun h => exM6 h ?_ ?_) (show (_ ∨ _) from ends')
  · exact fun v e => congrArg outcomeOf e
  · exact fun v x b o y _ => x b o y
  · exact fun _ _ _ e => congrArg outcomeOf e
  · exact fun _ _ _ x b o y _ => x b o y

theorem wpC_caller {M : Model} {A : Around} {s : Shared} {n : Str} {f : Value} {vs : List Value} {mg : Str → Option Value} {Q : Fin → Shared → Prop} {E : Value → Shared → Prop} (hg : s.heap.Ns mainGlobals mg) (hf : mg n = some f)
    (h : wpC M A (PySem.call f vs) (fun v s' => Q (.done (.ret v)) s') E s) : wpC M A (do match ← nsGet mainNs n with
      | some f => do ret (← PySem.call f vs)
      | none => unsupported "claim.caller:no-such-global") Q E s := fun Γ p hΓ hk => by
  rw [Sem.wp_bind']
  refine wpAny_nsGet (M := M) (A := A) (E := E) (Q := fun o s' => wpC M A (match o with | some f => (do ret (← PySem.call f vs) : Sem Fin) | none => unsupported "claim.caller:no-such-global") Q E s') hg ?_ Γ p hΓ |> Sem.wp_mono _ _ _ (fun v p' s' g => g Γ p' hΓ hk) (fun e _ s' g => g) _ _
  rw [hf]
  intro Γ p hΓ hk
  show wp _ _ (PySem.call f vs >>= fun v => ret v) _ _ _ _
  rw [Sem.wp_bind']
  exact Sem.wp_mono _ _ _ (fun v p' s' g => g) (fun e _ s' g => g) _ _ (h Γ p hΓ hk)

/-- the walk that is asked for, with the caller below -/
noncomputable abbrev WalkC (q : Program) (loose : List Str) (XP : (Str → Option Value) → Heap → Prop) {α : Type} (Yf : Shared → α) (Ya : World → α) (r : RowW) (d : DefRec) (kwd : List (Str × Expr)) : Prop :=
  ∀ (w : World) (s₀ s₁ : Shared) (mg mb : Str → Option Value), Ground q loose r.records XP w s₀ mg mb s₁.heap → Yf s₀ = Ya w → ∀ (a : Addr) (o : Obj) (pm cd doc dV kV : Value), s₁.heap.get? a = some o →
    o.data = .func { docDef d.name d.params d.body d.scope pm cd doc with defaults := dV, kwdefaults := kV } → s₁.heap.CodeRec cd d.name → Dflts mg s₁.heap d.params kwd dV kV → mg d.name = some (.ref a) → s₁.gens = #[] →
    ∀ (args : List WData) (vals : List Value) (as : List Addr), Laid r.records w s₀ s₁ args vals as → r.claim.pre args = true → WData.layableAll args = true → ReadsAllW r.records (classAt s₀.heap) s₁.heap vals args as → WellAll w.params s₁.heap vals args → (∀ a ∈ as, (a == sysModules) = false) →
      wpC (model r.prog w) callerA (PySem.call (.ref a) vals) (fun v s' => GoodWG r.claim (classAt s₀.heap) (ExcName.means s₀.heap) args s₁ (.ok (.ret v)) s')
        (fun e s' => GoodWG r.claim (classAt s₀.heap) (ExcName.means s₀.heap) args s₁ (.error e) s') s₁

theorem Hd.PySem.W.holds_openX {r : OpenRow} {q : Program} {loose : List Str} {Xt : Shared → Bool} {XP : (Str → Option Value) → Heap → Prop} {α : Type} {Yf : Shared → α} {Ya : World → α} {d : DefRec} {kwd : List (Str × Expr)} {N : Nat}
    (left : LeftO r.prog q loose Xt Yf Ya N)
    (hX : ∀ s, Xt s = true → XP (s.heap.nsMap mainGlobals) s.heap) (hXk : ∀ mg h h', XP mg h → (∀ b o, h.get? b = some o → h'.get? b = some o) → XP mg h')
    (hdef : defOf q r.name = some (d, kwd)) (hp : r.prog.theDef r.name = some (d.params, d.body, d.scope)) (hk : kwWritten? d.params.kwonlyargs d.params.kw_defaults = some kwd) (hRf : ∀ s, Xt s = true → RecFacts r.records s.heap) (hwr : (!r.writes || r.records.isEmpty) = true)
    (k1 : r.wellSaid = true) (ok : (chainsOk q && opensWell r.prog && (frees r.toRowW && r.within.isEmpty)) = true) (hb : r.prog.bare) (hw : r.toRowW.promised)
    (call : WalkC q loose XP Yf Ya r.toRowW d kwd) : r.Holds := by
  simp only [Bool.and_eq_true] at ok
  refine hG fun zP zK => ?_
  obtain ⟨⟨hch, hopens⟩, hfrees, hwithin⟩ := ok
  obtain ⟨hsame, hu, ha, hap, hm⟩ := frees_parts hfrees
  refine zK ?_
  refine ⟨k1, hw, ⟨hb, hopens, by show r.makers.map _ = []; rw [hm]; rfl⟩, hw.witness, fun w => ⟨(left.behind hX hch w).1, fun s' hs' => ?_⟩⟩
  refine hG fun zP zK => ?_
  obtain ⟨s₀, hf, hg0, s, top, asleep, gens0, hg, G', y⟩ := (left.behind (XP := fun mg h => XP mg h ∧ RecFacts r.records h) (fun s hs => ⟨hX s hs, hRf s hs⟩) hch w).2 s' hs'
  refine zK ?_
  have RF := G'.X.2
  have G0 : Ground q loose [] XP w s (s.heap.nsMap mainGlobals) (s.heap.nsMap builtinsNs) s.heap := ⟨G'.T, G'.B, G'.D, G'.TE, G'.TD, G'.W, G'.X.1, G'.cls, G'.has, G'.apart, G'.once, G'.K⟩
  have gens : s.gens = #[] := Array.eq_empty_of_size_eq_zero (beq_iff_eq.mp gens0)
  have G : Ground q loose r.records XP w s _ _ s.heap := RF.ground G0
  refine ⟨s₀, hf, hg0, s, top, fun n hn => ?_, RF.1, RF.2.1, ?_⟩
  · obtain rfl : n = r.name := by split at hn <;> simp_all
    exact pinned_of_view hg G0 hdef hp hk
  refine callFromC (c := r.claim) asleep gens fun args hpre hlay ord hord => ?_
  obtain ⟨⟨vs, s₁⟩, laid⟩ := Option.isSome_iff_exists.mp (layAllW_isSome (P := w.params) (ord := ord) G.has args r.args s (pre_splitW hpre).1)
  have keeps := layAllW_keeps _ _ _ laid
  have rest := layAllW_rest _ _ _ laid
  refine hG fun zP zK => ?_
  obtain ⟨as, reads, low, old⟩ := reads_layAllW hord _ _ _ laid hlay s₁.heap (fun _ _ e => e)
  refine zK ?_
  have L : Laid r.records w s s₁ args vs as := ⟨⟨ord, hord, laid⟩, reads, low, old, keeps, rest.1.trans gens, rest.2.2.1⟩
  have G₁ := G.keeps hXk keeps
  refine hG fun zP zK => ?_
  obtain ⟨a, o, pm, cd, doc, dV, kV, h1, h2, h3, h4, h5⟩ := G₁.fn hdef
  refine zK ?_
  have walk := call w s s₁ _ _ G₁ y a o pm cd doc dV kV h2 h3 h4 h5 (defOf_name hdef ▸ h1) L.gens args vs as L hpre hlay L.reads L.well (L.low G.low)
  have ident := ident_freeW hu ha hap
  have hwi : r.claim.within = [] := List.isEmpty_iff.mp hwithin
  refine ⟨vs, s₁, laid, wpC_caller G₁.T.g h1 (wpC_monoH walk (fun v s' g => ?_) fun e s' g => ?_)⟩
  · have z := g.laid (c := r.claim) hsame hwi ident L
    exact ⟨_, rfl, z.1, z.2.1, z.2.2, fun q => ⟨namesKept_of top hg _ keeps g.2.1.old, noTable hwr q⟩⟩
  · have z := g.laid (c := r.claim) hsame hwi ident L
    exact ⟨z.1, z.2.1, z.2.2, fun q => ⟨namesKept_of top hg _ keeps g.2.1.old, noTable hwr q⟩⟩
end Mine
end
section
open PySem PySem.W PySem.W.X PySem.W.ZRun PyProof.Rows
set_option maxHeartbeats 0
namespace Mine.Hd
local macro_rules | `(tactic| k_head) => `(tactic| z_head)
open_top hd for PySem.Challenge.rw_ny0238_01
end Mine.Hd
end
section
namespace Mine
open PySem PySem.W PySem.W.X PyProof.Rows

noncomputable abbrev prg : Program := PySem.Challenge.rw_ny0238_01.row.prog

/-- addresses of the code tables that a generator expression fills -/
noncomputable def tabs : List Addr := [47, 183, 190]

/-- the written part of the heap, less those tables -/
noncomputable def KS (P : Params) : Frag := (Hd.hd.heap_271 P).filter fun p => !(p.1 == 47 || p.1 == 183 || p.1 == 190)

structure Cx where
  w : World
  hB : Heap
  os₀ : OsState
  szB : hB.objs.size = 270
  t47 : hB.TableAt 51 47 #[]
  t183 : hB.TableAt 187 183 #[]
  t190 : hB.TableAt 194 190 #[]

/-- a code object and its table -/
noncomputable def TabOk (h : Heap) (c P : Addr) : Prop := ∃ ps, h.IsCode c P ps ∧ h.TableAt c P ps
theorem TabOk.move {h h' : Heap} {c P : Addr} (x : TabOk h c P) (kc : ∀ o, h.get? c = some o → h'.get? c = some o) (kP : ∀ o, h.get? P = some o → h'.get? P = some o) : TabOk h' c P := by
  refine hG fun zP zK => ?_
  obtain ⟨ps, ⟨o, vs, file, tf, flags, tg, inF, text, tt, op, a, r1, r2, r3, r4, r5, r6, b, r⟩, ⟨o', vs', a', r'⟩, t⟩ := x
  refine zK ?_
  exact ⟨ps, ⟨o, vs, file, tf, flags, tg, inF, text, tt, op, kc _ a, r1, r2, r3, r4, r5, r6, kP _ b, r⟩, ⟨o', vs', kc _ a', r'⟩, kP _ t⟩
theorem TabOk.low {h h' : Heap} {c P : Addr} (x : TabOk h c P) (k : ∀ b o, b < 270 → h.get? b = some o → h'.get? b = some o) (hc : c < 270) (hP : P < 270) : TabOk h' c P :=
  x.move (fun o e => k c o hc e) (fun o e => k P o hP e)

theorem oldK_low {h₀ h h' : Heap} (K : OldK h₀ h) (hz : h₀.objs.size ≤ 270) (k : ∀ b o, b < 270 → h.get? b = some o → h'.get? b = some o) : OldK h₀ h' := by
  have lt : ∀ b o, h₀.get? b = some o → b < 270 := fun b o e => Nat.lt_of_lt_of_le (Heap.lt_size e) hz
  refine ⟨fun b o e => ?_, fun b o e => let ⟨o', ho'⟩ := K.there b o e; ⟨o', k _ _ (lt b o e) ho'⟩⟩
  rcases K.old b o e with x | ⟨t, hc, vs, more, hv, x⟩ | ⟨rfl, hc, ⟨o', es, n, ho', r⟩, z⟩
  · exact .inl (k _ _ (lt b o e) x)
  · exact .inr (.inl ⟨t, hc, vs, more, hv, k _ _ (lt b o e) x⟩)
  · have q : h'.get? cStatics = h.get? cStatics := (k _ _ (lt _ o e) ho').trans ho'.symm
    exact .inr (.inr ⟨rfl, hc, ⟨o', es, n, k _ _ (lt _ o e) ho', r⟩, fun key => by rw [OldK.staticOf_congr q key]; exact z key⟩)

noncomputable abbrev Cx.M (c : Cx) : Model := model prg c.w

structure SInv (c : Cx) (s : Shared) : Prop where
  kin : (KS c.w.params).In s.heap
  old : OldK c.hB s.heap
  size : 270 ≤ s.heap.objs.size
  t47 : TabOk s.heap 51 47
  t183 : TabOk s.heap 187 183
  t190 : TabOk s.heap 194 190
  bare : AllBare s.gens
  os : s.os = c.os₀

noncomputable abbrev Kept (h h' : Heap) : Prop := ∀ b o, h.get? b = some o → h'.get? b = some o

theorem KS_lt {P : Params} {a : Addr} {o : Obj} (e : (KS P).lookup a = some o) : a < 270 := by
  have h : (KS P).all (fun p => decide (p.1 < 270)) = true := by kernel_rfl
  have hm : (a, o) ∈ KS P := by
    clear h
    generalize KS P = l at e
    induction l with
    | nil => cases e
    | cons p r ih =>
      obtain ⟨b, x⟩ := p
      rw [List.lookup_cons] at e
      split at e
      · rename_i q
        have : a = b := by simpa using q
        cases e; subst this; exact .head _
      · exact .tail _ (ih e)
  exact of_decide_eq_true (List.all_eq_true.mp h _ hm)

theorem KS_no {P : Params} {a : Addr} {o : Obj} (e : (KS P).lookup a = some o) : a ∉ tabs := by
  have h : (KS P).all (fun p => decide (p.1 ∉ tabs)) = true := by kernel_rfl
  have hm : (a, o) ∈ KS P := by
    clear h
    generalize KS P = l at e
    induction l with
    | nil => cases e
    | cons p r ih =>
      obtain ⟨b, x⟩ := p
      rw [List.lookup_cons] at e
      split at e
      · rename_i q
        have : a = b := by simpa using q
        cases e; subst this; exact .head _
      · exact .tail _ (ih e)
  exact of_decide_eq_true (List.all_eq_true.mp h _ hm)

namespace SInv
variable {c : Cx} {s : Shared}

theorem toks (I : SInv c s) (t : Nat) : SInv c { s with toks := t } := ⟨I.kin, I.old, I.size, I.t47, I.t183, I.t190, I.bare, I.os⟩

theorem low (I : SInv c s) {s' : Shared} (k : ∀ b o, b < 270 → s.heap.get? b = some o → s'.heap.get? b = some o) (hz : s.heap.objs.size ≤ s'.heap.objs.size) (hb : AllBare s'.gens) (ho : s'.os = s.os) : SInv c s' :=
  ⟨fun b o e => k b o (KS_lt e) (I.kin b o e), oldK_low I.old (Nat.le_of_eq c.szB) k, Nat.le_trans I.size hz, I.t47.low k (by decide) (by decide), I.t183.low k (by decide) (by decide), I.t190.low k (by decide) (by decide), hb, ho.trans I.os⟩

theorem keeps (I : SInv c s) {h' : Heap} {t : Nat} (k : Kept s.heap h') (hz : s.heap.objs.size ≤ h'.objs.size) : SInv c { s with heap := h', toks := t } :=
  I.low (fun b o _ e => k b o e) hz I.bare rfl

theorem same (I : SInv c s) {h' : Heap} {t : Nat} {a : Addr} (ha : 270 ≤ a) (k : Heap.SameBut a s.heap h') : SInv c { s with heap := h', toks := t } :=
  I.low (fun b o hb e => (k.2 b (fun q => absurd (q ▸ hb) (Nat.not_lt.mpr ha))).trans e) (Nat.le_of_eq k.1.symm) I.bare rfl

end SInv

/-- what a call that changes nothing of the caller's leaves -/
structure Ev (c : Cx) (s s' : Shared) : Prop where
  inv : SInv c s'
  keep : ∀ b o, s.heap.get? b = some o → b ∉ tabs → s'.heap.get? b = some o
  size : s.heap.objs.size ≤ s'.heap.objs.size


/-- the state inside a body: its names m at L, its own objects mu, all of he kept -/
structure Bod (c : Cx) (he : Heap) (L : Addr) (m : List (Str × Value)) (mu : List (Addr × Obj)) (s : Shared) : Prop where
  inv : SInv c s
  ns : s.heap.Ns L (fun x => m.lookup x)
  keep : Kept he s.heap
  hidT : ∀ b ∈ tabs, he.get? b = none
  hidL : he.get? L = none
  hidM : ∀ p ∈ mu, he.get? p.1 = none
  own : ∀ p ∈ mu, s.heap.get? p.1 = some p.2
  nod : (L :: mu.map (·.1)).Nodup
  lowL : 270 ≤ L
  lowM : ∀ p ∈ mu, 270 ≤ p.1
  size : he.objs.size ≤ s.heap.objs.size

structure Room (k : Nat) (A : Around) : Prop where
  handled : A.handled = none
  depth : A.depth + k ≤ 690
  units : A.units + 100 * k ≤ 9000
  frames : ∃ l, A.frames = some l
  guards : A.guards = some []

theorem Room.deeper {k : Nat} {A : Around} (R : Room (k + 1) A) (env : Env) : Room k (A.deeper env) := by
  obtain ⟨a, b, d, ⟨l, e⟩, g⟩ := R
  refine ⟨a, ?_, ?_, ⟨env :: l, ?_⟩, g⟩
  · show A.depth + 1 + k ≤ 690; lia
  · show A.units + 3 + 100 * k ≤ 9000; lia
  · show A.frames.map (env :: ·) = _; rw [e]; rfl
theorem Room.lim {k : Nat} {A : Around} (R : Room k A) : A.depth < recursionLimit := by
  have := R.depth
  show A.depth < 1000
  lia
theorem Room.cl {k : Nat} {A : Around} (R : Room k A) : A.units < cLine := by
  have := R.units
  show A.units < 9900
  lia

theorem hide_tabs {h : Heap} {l : List Addr} : ∀ b ∈ tabs, (hideAll h (tabs ++ l)).get? b = none := fun b hb => hideAll_none _ (List.mem_append_left _ hb)

namespace Bod
variable {c : Cx} {he : Heap} {L : Addr} {m : List (Str × Value)} {mu : List (Addr × Obj)} {s : Shared}

theorem toks (B : Bod c he L m mu s) (t : Nat) : Bod c he L m mu { s with toks := t } :=
  ⟨B.inv.toks t, B.ns, B.keep, B.hidT, B.hidL, B.hidM, B.own, B.nod, B.lowL, B.lowM, B.size⟩

/-- what a body leaves to its caller -/
theorem ev {s₀ : Shared} {l : List Addr} (B : Bod c (hideAll s₀.heap (tabs ++ l)) L m mu s) (hl : l = []) : Ev c s₀ s := by
  subst hl
  refine ⟨B.inv, fun b o e n => B.keep b o (hideAll_get _ e (by simpa using n)), ?_⟩
  have := B.size
  rwa [hideAll_size] at this

/-- a call that leaves all as it was -/
theorem after (B : Bod c he L m mu s) {s' : Shared} (x : Ev c s s') : Bod c he L m mu s' := by
  have nt : ∀ b, 270 ≤ b → b ∉ tabs := fun b hb hm => by
    have : b < 270 := by
      rcases List.mem_cons.mp hm with rfl | hm
      · decide
      · rcases List.mem_cons.mp hm with rfl | hm
        · decide
        · rcases List.mem_cons.mp hm with rfl | hm
          · decide
          · cases hm
    exact absurd this (Nat.not_lt.mpr hb)
  refine ⟨x.inv, ?_, fun b o e => ?_, B.hidT, B.hidL, B.hidM, fun p hp => x.keep _ _ (B.own p hp) (nt _ (B.lowM p hp)), B.nod, B.lowL, B.lowM, Nat.le_trans B.size x.size⟩
  · obtain ⟨o, es, ep, ho, r⟩ := B.ns
    exact ⟨o, es, ep, x.keep _ _ ho (nt _ B.lowL), r⟩
  · refine x.keep b o (B.keep b o e) fun hm => ?_
    rw [B.hidT b hm] at e; cases e

theorem notTab (b : Addr) (hb : 270 ≤ b) : b ∉ tabs := fun hm => by
  have : b < 270 := by
    rcases List.mem_cons.mp hm with rfl | hm
    · decide
    · rcases List.mem_cons.mp hm with rfl | hm
      · decide
      · rcases List.mem_cons.mp hm with rfl | hm
        · decide
        · cases hm
  exact absurd this (Nat.not_lt.mpr hb)

/-- the heap grown by a new object that nobody keeps -/
theorem push (B : Bod c he L m mu s) (o : Obj) (t : Nat) : Bod c he L m mu { s with heap := s.heap.push o, toks := t } := by
  have k : Kept s.heap (s.heap.push o) := fun b o' e => Heap.get?_push_of_some o e
  have hz : s.heap.objs.size ≤ (s.heap.push o).objs.size := by rw [Heap.size_push]; lia
  exact ⟨B.inv.keeps k hz, B.ns.push o, fun b o' e => k _ _ (B.keep _ _ e), B.hidT, B.hidL, B.hidM, fun p hp => k _ _ (B.own p hp), B.nod, B.lowL, B.lowM, Nat.le_trans B.size hz⟩

theorem grown (B : Bod c he L m mu s) {h' : Heap} {t : Nat} (k : Kept s.heap h') (hz : s.heap.objs.size ≤ h'.objs.size) : Bod c he L m mu { s with heap := h', toks := t } :=
  ⟨B.inv.keeps k hz, B.ns.keeps k, fun b o' e => k _ _ (B.keep _ _ e), B.hidT, B.hidL, B.hidM, fun p hp => k _ _ (B.own p hp), B.nod, B.lowL, B.lowM, Nat.le_trans B.size hz⟩

/-- a known object taken into the ledger -/
theorem add (B : Bod c he L m mu s) {a : Addr} {o : Obj} (e : s.heap.get? a = some o) (hn : he.get? a = none) (hl : 270 ≤ a) (ha : a ≠ L) (hm : a ∉ mu.map (·.1)) : Bod c he L m ((a, o) :: mu) s := by
  refine ⟨B.inv, B.ns, B.keep, B.hidT, B.hidL, ?_, ?_, ?_, B.lowL, ?_, B.size⟩
  · intro p hp; rcases List.mem_cons.mp hp with rfl | hp
    · exact hn
    · exact B.hidM p hp
  · intro p hp; rcases List.mem_cons.mp hp with rfl | hp
    · exact e
    · exact B.own p hp
  · have := B.nod
    simp only [List.map_cons, List.nodup_cons, List.mem_cons, not_or] at this ⊢
    exact ⟨⟨Ne.symm ha, this.1⟩, hm, this.2⟩
  · intro p hp; rcases List.mem_cons.mp hp with rfl | hp
    · exact hl
    · exact B.lowM p hp

/-- a new object, kept in the ledger -/
theorem alloc (B : Bod c he L m mu s) (o : Obj) (t : Nat) (hf : o.isFreed = false) : Bod c he L m ((s.heap.objs.size, o) :: mu) { s with heap := s.heap.push o, toks := t } := by
  refine (B.push o t).add (Heap.get?_push_size _ hf) ?_ B.inv.size ?_ ?_
  · cases q : he.get? s.heap.objs.size with
    | none => rfl
    | some o' => exact absurd (Heap.lt_size (B.keep _ _ q)) (Nat.lt_irrefl _)
  · intro q; exact absurd B.ns.lt (q ▸ Nat.lt_irrefl _)
  · intro q
    obtain ⟨p, hp, e⟩ := List.mem_map.mp q
    exact absurd (Heap.lt_size (B.own p hp)) (e ▸ Nat.lt_irrefl _)

theorem drop (B : Bod c he L m mu s) {mu' : List (Addr × Obj)} (h : mu'.Sublist mu) : Bod c he L m mu' s :=
  ⟨B.inv, B.ns, B.keep, B.hidT, B.hidL, fun p hp => B.hidM p (h.subset hp), fun p hp => B.own p (h.subset hp),
    List.Nodup.sublist (List.Sublist.cons_cons _ (h.map _)) B.nod, B.lowL, fun p hp => B.lowM p (h.subset hp), B.size⟩

/-- all that stands now and is neither the frame's nor the ledger's is kept from now on -/
theorem freeze (B : Bod c he L m mu s) : ∃ he', Bod c he' L m mu s ∧ Kept he he' ∧ (∀ b o, s.heap.get? b = some o → b ∉ tabs → b ≠ L → b ∉ mu.map (·.1) → he'.get? b = some o) := by
  refine ⟨hideAll s.heap (tabs ++ (L :: mu.map (·.1))), ⟨B.inv, B.ns, fun b o e => of_hideAll _ e, hide_tabs, hideAll_none _ (mI 3 rfl), fun p hp => hideAll_none _ ?_, B.own, B.nod, B.lowL, B.lowM, by rw [hideAll_size]; exact Nat.le_refl _⟩, ?_, ?_⟩
  · simp only [List.mem_append, List.mem_cons]; exact .inr (.inr (List.mem_map_of_mem hp))
  · intro b o e
    refine hideAll_get _ (B.keep b o e) fun hm => ?_
    rcases List.mem_append.mp hm with hm | hm
    · rw [B.hidT b hm] at e; cases e
    · rcases List.mem_cons.mp hm with rfl | hm
      · rw [B.hidL] at e; cases e
      · obtain ⟨p, hp, rfl⟩ := List.mem_map.mp hm
        rw [B.hidM p hp] at e; cases e
  · intro b o e h1 h2 h3
    exact hideAll_get _ e (by simp only [List.mem_append, List.mem_cons, not_or]; exact ⟨h1, h2, h3⟩)

/-- the kept part made smaller -/
theorem weaken (B : Bod c he L m mu s) {he' : Heap} (k : Kept he' he) (hz : he'.objs.size ≤ he.objs.size) : Bod c he' L m mu s := by
  have no : ∀ b, he.get? b = none → he'.get? b = none := fun b e => by
    cases q : he'.get? b with
    | none => rfl
    | some o => rw [k b o q] at e; cases e
  exact ⟨B.inv, B.ns, fun b o e => B.keep b o (k b o e), fun b hb => no b (B.hidT b hb), no _ B.hidL, fun p hp => no _ (B.hidM p hp), B.own, B.nod, B.lowL, B.lowM, Nat.le_trans hz B.size⟩

/-- one object of the ledger changed -/
theorem upd (B : Bod c he L m mu s) {pre post : List (Addr × Obj)} {a : Addr} {o o' : Obj} {f : Obj → Obj} {t : Nat} (hmu : mu = pre ++ (a, o) :: post) (e : f o = o') (hf : o'.isFreed = false) :
    Bod c he L m (pre ++ (a, o') :: post) { s with heap := s.heap.update a f, toks := t } := by
  subst hmu
  have hs : Heap.SameBut a s.heap (s.heap.update a f) := Heap.SameBut.update ..
  have hlow : 270 ≤ a := B.lowM (a, o) (by simp)
  have hnod := B.nod
  simp only [List.map_append, List.map_cons, List.nodup_cons, List.mem_append, List.mem_cons, not_or] at hnod
  obtain ⟨⟨hL1, hL2, hL3⟩, hn2⟩ := hnod
  rw [List.nodup_append] at hn2
  obtain ⟨_, hn3, hn4⟩ := hn2
  rw [List.nodup_cons] at hn3
  have hpre : ∀ p ∈ pre, p.1 ≠ a := fun p hp => hn4 p.1 (List.mem_map_of_mem hp) a (List.mem_cons_self ..)
  have hpost : ∀ p ∈ post, p.1 ≠ a := fun p hp q => hn3.1 (q ▸ List.mem_map_of_mem hp)
  have mm : ∀ (P : Addr → Prop), (∀ p ∈ pre ++ (a, o) :: post, P p.1) → ∀ p ∈ pre ++ (a, o') :: post, P p.1 := fun P h p hp => by
    rcases List.mem_append.mp hp with q | q
    · exact h p (List.mem_append_left _ q)
    · rcases List.mem_cons.mp q with rfl | q
      · exact h (a, o) (by simp)
      · exact h p (List.mem_append_right _ (.tail _ q))
  refine ⟨B.inv.same hlow hs, B.ns.sameBut hs hL2, fun b x q => ?_, B.hidT, B.hidL, mm (fun b => he.get? b = none) B.hidM, ?_, ?_, B.lowL, mm (fun b => 270 ≤ b) B.lowM, ?_⟩
  · refine (hs.2 b fun z => ?_).trans (B.keep b x q)
    have := B.hidM (a, o) (by simp)
    rw [← z, q] at this; cases this
  · intro p hp
    rcases List.mem_append.mp hp with q | q
    · exact (hs.2 _ (hpre p q)).trans (B.own p (List.mem_append_left _ q))
    · rcases List.mem_cons.mp q with rfl | q
      · have := Heap.get?_update_self f (B.own (a, o) (by simp)) (e ▸ hf)
        rw [e] at this; exact this
      · exact (hs.2 _ (hpost p q)).trans (B.own p (List.mem_append_right _ (.tail _ q)))
  · have := B.nod; simpa only [List.map_append, List.map_cons] using this
  · show he.objs.size ≤ (s.heap.update a f).objs.size
    rw [hs.1]; exact B.size
end Bod
end Mine
end
section
namespace Mine
open PySem
noncomputable abbrev n_script : Str := ⟨⟨[115, 99, 114, 105, 112, 116]⟩⟩
noncomputable abbrev n_machines : Str := ⟨⟨[109, 97, 99, 104, 105, 110, 101, 115]⟩⟩
noncomputable abbrev n_shift : Str := ⟨⟨[115, 104, 105, 102, 116]⟩⟩
noncomputable abbrev n_plain : Str := ⟨⟨[112, 108, 97, 105, 110]⟩⟩
noncomputable abbrev n_named : Str := ⟨⟨[110, 97, 109, 101, 100]⟩⟩
noncomputable abbrev n_fields : Str := ⟨⟨[102, 105, 101, 108, 100, 115]⟩⟩
noncomputable abbrev n_bare : Str := ⟨⟨[98, 97, 114, 101]⟩⟩
noncomputable abbrev n_due : Str := ⟨⟨[100, 117, 101]⟩⟩
noncomputable abbrev n_width : Str := ⟨⟨[119, 105, 100, 116, 104]⟩⟩
noncomputable abbrev n_later : Str := ⟨⟨[108, 97, 116, 101, 114]⟩⟩
noncomputable abbrev n_stays : Str := ⟨⟨[115, 116, 97, 121, 115]⟩⟩
noncomputable abbrev n_system : Str := ⟨⟨[115, 121, 115, 116, 101, 109]⟩⟩
noncomputable abbrev n_number : Str := ⟨⟨[110, 117, 109, 98, 101, 114]⟩⟩
noncomputable abbrev n_tail : Str := ⟨⟨[116, 97, 105, 108]⟩⟩
noncomputable abbrev n_version : Str := ⟨⟨[118, 101, 114, 115, 105, 111, 110]⟩⟩
noncomputable abbrev n_entries : Str := ⟨⟨[101, 110, 116, 114, 105, 101, 115]⟩⟩
noncomputable abbrev n_rows : Str := ⟨⟨[114, 111, 119, 115]⟩⟩
noncomputable abbrev n_first : Str := ⟨⟨[102, 105, 114, 115, 116]⟩⟩
noncomputable abbrev n_row : Str := ⟨⟨[114, 111, 119]⟩⟩
noncomputable abbrev n_x : Str := ⟨⟨[120]⟩⟩
noncomputable abbrev n_n : Str := ⟨⟨[110]⟩⟩
noncomputable abbrev n_release : Str := ⟨⟨[114, 101, 108, 101, 97, 115, 101]⟩⟩
noncomputable abbrev n_args : Str := ⟨⟨[97, 114, 103, 115]⟩⟩
noncomputable abbrev n_platform : Str := ⟨⟨[112, 108, 97, 116, 102, 111, 114, 109]⟩⟩
noncomputable abbrev n_cleaned : Str := ⟨⟨[99, 108, 101, 97, 110, 101, 100]⟩⟩
noncomputable abbrev n_val : Str := ⟨⟨[118, 97, 108]⟩⟩
noncomputable abbrev n_self : Str := ⟨⟨[115, 101, 108, 102]⟩⟩
noncomputable abbrev n_headerlen : Str := ⟨⟨[104, 101, 97, 100, 101, 114, 108, 101, 110]⟩⟩
noncomputable abbrev n_maxlen : Str := ⟨⟨[109, 97, 120, 108, 101, 110]⟩⟩
noncomputable abbrev n_continuation_ws : Str := ⟨⟨[99, 111, 110, 116, 105, 110, 117, 97, 116, 105, 111, 110, 95, 119, 115]⟩⟩
noncomputable abbrev n_splitchars : Str := ⟨⟨[115, 112, 108, 105, 116, 99, 104, 97, 114, 115]⟩⟩
noncomputable abbrev n_linesep : Str := ⟨⟨[108, 105, 110, 101, 115, 101, 112]⟩⟩
noncomputable abbrev n_end_of_line : Str := ⟨⟨[101, 110, 100, 95, 111, 102, 95, 108, 105, 110, 101]⟩⟩
noncomputable abbrev n_fws : Str := ⟨⟨[102, 119, 115]⟩⟩
noncomputable abbrev n_string : Str := ⟨⟨[115, 116, 114, 105, 110, 103]⟩⟩
noncomputable abbrev n_parts : Str := ⟨⟨[112, 97, 114, 116, 115]⟩⟩
noncomputable abbrev n_part : Str := ⟨⟨[112, 97, 114, 116]⟩⟩
noncomputable abbrev n_ch : Str := ⟨⟨[99, 104]⟩⟩
noncomputable abbrev n_i : Str := ⟨⟨[105]⟩⟩
noncomputable abbrev n_prevpart : Str := ⟨⟨[112, 114, 101, 118, 112, 97, 114, 116]⟩⟩
noncomputable abbrev n_remainder : Str := ⟨⟨[114, 101, 109, 97, 105, 110, 100, 101, 114]⟩⟩
noncomputable abbrev n_initial_size : Str := ⟨⟨[105, 110, 105, 116, 105, 97, 108, 95, 115, 105, 122, 101]⟩⟩
noncomputable abbrev n_startval : Str := ⟨⟨[115, 116, 97, 114, 116, 118, 97, 108]⟩⟩
noncomputable abbrev n_maxlen_u : Str := ⟨⟨[95, 109, 97, 120, 108, 101, 110]⟩⟩
noncomputable abbrev n_continuation_ws_u : Str := ⟨⟨[95, 99, 111, 110, 116, 105, 110, 117, 97, 116, 105, 111, 110, 95, 119, 115]⟩⟩
noncomputable abbrev n_continuation_ws_len_u : Str := ⟨⟨[95, 99, 111, 110, 116, 105, 110, 117, 97, 116, 105, 111, 110, 95, 119, 115, 95, 108, 101, 110]⟩⟩
noncomputable abbrev n_splitchars_u : Str := ⟨⟨[95, 115, 112, 108, 105, 116, 99, 104, 97, 114, 115]⟩⟩
noncomputable abbrev n_lines_u : Str := ⟨⟨[95, 108, 105, 110, 101, 115]⟩⟩
noncomputable abbrev n_current_line_u : Str := ⟨⟨[95, 99, 117, 114, 114, 101, 110, 116, 95, 108, 105, 110, 101]⟩⟩
noncomputable abbrev n_initial_size_u : Str := ⟨⟨[95, 105, 110, 105, 116, 105, 97, 108, 95, 115, 105, 122, 101]⟩⟩
noncomputable abbrev n_law_machines_u : Str := ⟨⟨[95, 108, 97, 119, 95, 109, 97, 99, 104, 105, 110, 101, 115]⟩⟩
noncomputable abbrev n_law_plain_u : Str := ⟨⟨[95, 108, 97, 119, 95, 112, 108, 97, 105, 110]⟩⟩
noncomputable abbrev n_law_alias_u : Str := ⟨⟨[95, 108, 97, 119, 95, 97, 108, 105, 97, 115]⟩⟩
noncomputable abbrev n_law_bare_u : Str := ⟨⟨[95, 108, 97, 119, 95, 98, 97, 114, 101]⟩⟩
noncomputable abbrev n_law_rows_u : Str := ⟨⟨[95, 108, 97, 119, 95, 114, 111, 119, 115]⟩⟩
noncomputable abbrev n_law_told_u : Str := ⟨⟨[95, 108, 97, 119, 95, 116, 111, 108, 100]⟩⟩
noncomputable abbrev n_system_alias : Str := ⟨⟨[115, 121, 115, 116, 101, 109, 95, 97, 108, 105, 97, 115]⟩⟩
noncomputable abbrev n_platform_u : Str := ⟨⟨[95, 112, 108, 97, 116, 102, 111, 114, 109]⟩⟩
noncomputable abbrev n_unknown_as_blank_u : Str := ⟨⟨[95, 117, 110, 107, 110, 111, 119, 110, 95, 97, 115, 95, 98, 108, 97, 110, 107]⟩⟩
noncomputable abbrev n_ValueFormatter_u : Str := ⟨⟨[95, 86, 97, 108, 117, 101, 70, 111, 114, 109, 97, 116, 116, 101, 114]⟩⟩
noncomputable abbrev n_Accumulator_u : Str := ⟨⟨[95, 65, 99, 99, 117, 109, 117, 108, 97, 116, 111, 114]⟩⟩
noncomputable abbrev n_twin_re_1_u : Str := ⟨⟨[95, 116, 119, 105, 110, 95, 114, 101, 95, 49]⟩⟩
noncomputable abbrev n_EMPTYSTRING : Str := ⟨⟨[69, 77, 80, 84, 89, 83, 84, 82, 73, 78, 71]⟩⟩
noncomputable abbrev n_str : Str := ⟨⟨[115, 116, 114]⟩⟩
noncomputable abbrev n_len : Str := ⟨⟨[108, 101, 110]⟩⟩
noncomputable abbrev n_sum : Str := ⟨⟨[115, 117, 109]⟩⟩
noncomputable abbrev n_zip : Str := ⟨⟨[122, 105, 112]⟩⟩
noncomputable abbrev n_tuple : Str := ⟨⟨[116, 117, 112, 108, 101]⟩⟩
noncomputable abbrev n_int : Str := ⟨⟨[105, 110, 116]⟩⟩
noncomputable abbrev n_ValueError : Str := ⟨⟨[86, 97, 108, 117, 101, 69, 114, 114, 111, 114]⟩⟩
noncomputable abbrev n_filter : Str := ⟨⟨[102, 105, 108, 116, 101, 114]⟩⟩
noncomputable abbrev n_iter : Str := ⟨⟨[105, 116, 101, 114]⟩⟩
noncomputable abbrev n_range : Str := ⟨⟨[114, 97, 110, 103, 101]⟩⟩
noncomputable abbrev n_super : Str := ⟨⟨[115, 117, 112, 101, 114]⟩⟩
noncomputable abbrev n_class_dd : Str := ⟨⟨[95, 95, 99, 108, 97, 115, 115, 95, 95]⟩⟩
noncomputable abbrev n_push : Str := ⟨⟨[112, 117, 115, 104]⟩⟩
noncomputable abbrev n_pop_from : Str := ⟨⟨[112, 111, 112, 95, 102, 114, 111, 109]⟩⟩
noncomputable abbrev n_pop : Str := ⟨⟨[112, 111, 112]⟩⟩
noncomputable abbrev n_reset : Str := ⟨⟨[114, 101, 115, 101, 116]⟩⟩
noncomputable abbrev n_is_onlyws : Str := ⟨⟨[105, 115, 95, 111, 110, 108, 121, 119, 115]⟩⟩
noncomputable abbrev n_part_count : Str := ⟨⟨[112, 97, 114, 116, 95, 99, 111, 117, 110, 116]⟩⟩
noncomputable abbrev n_newline : Str := ⟨⟨[110, 101, 119, 108, 105, 110, 101]⟩⟩
noncomputable abbrev n_str_u : Str := ⟨⟨[95, 115, 116, 114]⟩⟩
noncomputable abbrev n_ascii_split_u : Str := ⟨⟨[95, 97, 115, 99, 105, 105, 95, 115, 112, 108, 105, 116]⟩⟩
noncomputable abbrev n_append_chunk_u : Str := ⟨⟨[95, 97, 112, 112, 101, 110, 100, 95, 99, 104, 117, 110, 107]⟩⟩
noncomputable abbrev n_append : Str := ⟨⟨[97, 112, 112, 101, 110, 100]⟩⟩
noncomputable abbrev n_join : Str := ⟨⟨[106, 111, 105, 110]⟩⟩
noncomputable abbrev n_split : Str := ⟨⟨[115, 112, 108, 105, 116]⟩⟩
noncomputable abbrev n_replace : Str := ⟨⟨[114, 101, 112, 108, 97, 99, 101]⟩⟩
noncomputable abbrev n_strip : Str := ⟨⟨[115, 116, 114, 105, 112]⟩⟩
noncomputable abbrev n_isspace : Str := ⟨⟨[105, 115, 115, 112, 97, 99, 101]⟩⟩
noncomputable abbrev t_SunOS : Str := ⟨⟨[83, 117, 110, 79, 83]⟩⟩
noncomputable abbrev t_Solaris : Str := ⟨⟨[83, 111, 108, 97, 114, 105, 115]⟩⟩
noncomputable abbrev t_win32 : Str := ⟨⟨[119, 105, 110, 51, 50]⟩⟩
noncomputable abbrev t_win16 : Str := ⟨⟨[119, 105, 110, 49, 54]⟩⟩
noncomputable abbrev t_Windows : Str := ⟨⟨[87, 105, 110, 100, 111, 119, 115]⟩⟩
noncomputable abbrev t_unknown : Str := ⟨⟨[117, 110, 107, 110, 111, 119, 110]⟩⟩
noncomputable abbrev t_Linux : Str := ⟨⟨[76, 105, 110, 117, 120]⟩⟩
noncomputable abbrev t_d8 : Str := ⟨⟨[46, 56]⟩⟩
noncomputable abbrev t_v1 : Str := ⟨⟨[118, 49]⟩⟩
noncomputable abbrev t_sun4u : Str := ⟨⟨[115, 117, 110, 52, 117]⟩⟩
noncomputable abbrev t_d10 : Str := ⟨⟨[46, 49, 48]⟩⟩
noncomputable abbrev t_v : Str := ⟨⟨[118]⟩⟩
noncomputable abbrev t_xx : Str := ⟨⟨[120]⟩⟩
noncomputable abbrev t_i386 : Str := ⟨⟨[105, 51, 56, 54]⟩⟩
noncomputable abbrev t_empty : Str := ⟨⟨[]⟩⟩
noncomputable abbrev t_five : Str := ⟨⟨[53]⟩⟩
noncomputable abbrev t_six : Str := ⟨⟨[54]⟩⟩
noncomputable abbrev t_dot : Str := ⟨⟨[46]⟩⟩
noncomputable abbrev t_hy : Str := ⟨⟨[45]⟩⟩
noncomputable abbrev t_blank : Str := ⟨⟨[32]⟩⟩
noncomputable abbrev t_us : Str := ⟨⟨[95]⟩⟩
noncomputable abbrev t_slash : Str := ⟨⟨[47]⟩⟩
noncomputable abbrev t_bslash : Str := ⟨⟨[92]⟩⟩
noncomputable abbrev t_colon : Str := ⟨⟨[58]⟩⟩
noncomputable abbrev t_semi : Str := ⟨⟨[59]⟩⟩
noncomputable abbrev t_quote : Str := ⟨⟨[34]⟩⟩
noncomputable abbrev t_lpar : Str := ⟨⟨[40]⟩⟩
noncomputable abbrev t_rpar : Str := ⟨⟨[41]⟩⟩
noncomputable abbrev t_hyhy : Str := ⟨⟨[45, 45]⟩⟩
noncomputable abbrev t_nl : Str := ⟨⟨[10]⟩⟩
noncomputable abbrev t_digs : Str := ⟨⟨[53, 54, 55, 56, 57]⟩⟩
end Mine
end
section
namespace Mine
open PySem PySem.W PySem.W.X PyProof.Rows

noncomputable def oF (P : Params) (a : Addr) : Obj := ((Hd.hd.ktop_530 P).get a).getD default
noncomputable def fdF (P : Params) (a : Addr) : FuncData := match (oF P a).data with | .func f => f | _ => default
noncomputable def bodyF (P : Params) (a : Addr) : List Stmt := match (fdF P a).body with | .stmts b => b | _ => []
noncomputable def envF (P : Params) (f L : Addr) : Env := callEnv (fdF P f) L f

theorem inK {c : Cx} {s : Shared} (I : SInv c s) {a : Addr} (h : (KS c.w.params).lookup a = some (oF c.w.params a)) : s.heap.get? a = some (oF c.w.params a) := I.kin _ _ h

theorem noLimit_of {c : Cx} {s : Shared} (I : SInv c s) : s.heap.NoLimit := by
  have h : (KS c.w.params).lookup 2 = some (oF c.w.params 2) := by kernel_rfl
  have e := inK I h
  have hz : ∃ es n, (oF c.w.params 2).data = .dict es n ∧ (es.toList.all fun d => match d.key with | .str _ _ => true | _ => false) = true ∧ nsFind es "sys.recursionlimit" = none := ⟨_, _, rfl, by kernel_rfl, by kernel_rfl⟩
  obtain ⟨es, n, h1, h2, h3⟩ := hz
  refine ⟨fun x => nsFind es x, ⟨_, es, n, e, h1, ?_, fun _ => rfl⟩, h3⟩
  intro d hd
  have := List.all_eq_true.mp h2 d (Array.mem_toList_iff.mpr hd)
  revert this
  cases d.key <;> intro q <;> first | exact ⟨_, _, rfl⟩ | cases q

theorem envF_locals (P : Params) (f L : Addr) : (envF P f L).locals = L := rfl

/-- what entering a def asks -/
structure FnOk (P : Params) (f : Addr) (args : List Value) (m : List (Str × Value)) : Prop where
  at_ : (KS P).lookup f = some (oF P f)
  data : (oF P f).data = .func (fdF P f)
  body : (fdF P f).body = .stmts (bodyF P f)
  code : codeIn (KS P) (fdF P f).code (fdF P f).qualname = true
  bind : bindArgs (fdF P f) ⟨args, []⟩ = pure m.reverse ∨ ∀ S, peek (KS P) S (bindArgs (fdF P f) ⟨args, []⟩) = some m.reverse
  cell : ((fdF P f).scope.names.all fun x => decide (x.2 ≠ .cell)) = true
  loc : (m.all fun x => decide ((fdF P f).scope.names.lookup x.1 = some .local)) = true
  co : (fdF P f).scope.isCoroutine = false
  gen : (fdF P f).scope.isGenerator = false
  kind : (fdF P f).scope.kind = .function

theorem FnOk.binds {P : Params} {f : Addr} {args : List Value} {m : List (Str × Value)} (O : FnOk P f args m) {s : Shared} (X : (KS P).In s.heap) : BindsTo s (fdF P f) ⟨args, []⟩ m.reverse := by
  rcases O.bind with e | e
  · exact fun _ _ _ _ hq => e ▸ wpAny_pure hq
  · exact kp_binds X e

/-- entering a def of the text -/
theorem enterB {c : Cx} {k : Nat} {A : Around} {s : Shared} {f : Addr} {args : List Value} {m : List (Str × Value)} {Q : Value → Shared → Prop} {E : Value → Shared → Prop} (l : List Addr)
    (I : SInv c s) (R : Room (k + 1) A)
    (ho : (KS c.w.params).lookup f = some (oF c.w.params f)) (hd : (oF c.w.params f).data = .func (fdF c.w.params f)) (hb : (fdF c.w.params f).body = .stmts (bodyF c.w.params f))
    (hcd : codeIn (KS c.w.params) (fdF c.w.params f).code (fdF c.w.params f).qualname = true)
    (hbind : BindsTo s (fdF c.w.params f) ⟨args, []⟩ m.reverse)
    (hcell : ((fdF c.w.params f).scope.names.all fun x => decide (x.2 ≠ .cell)) = true)
    (hloc : (m.all fun x => decide ((fdF c.w.params f).scope.names.lookup x.1 = some .local)) = true)
    (hco : (fdF c.w.params f).scope.isCoroutine = false) (hgen : (fdF c.w.params f).scope.isGenerator = false) (hk : (fdF c.w.params f).scope.kind = .function)
    (h : ∀ L s', L = s.heap.objs.size → Bod c (hideAll s.heap (tabs ++ l)) L m [] s' → Kept s.heap s'.heap → Room k (A.deeper (envF c.w.params f L)) →
      wpAny c.M (A.deeper (envF c.w.params f L)) (execs (bodyF c.w.params f) (envF c.w.params f L)) (fun fl s' => Q (match fl with | .ret v => v | _ => .none) s') (fun _ _ => False) s') :
    wpAny c.M A (call (.ref f) args) Q E s := by
  refine wpAny_call ?_
  refine codeAny_call_def (fd := fdF c.w.params f) (body := bodyF c.w.params f) (binds := m.reverse) R.lim (inK I ho) hd (noLimit_of I) (codeRec_of I.kin hcd) hb hbind
    (fun x hx => of_decide_eq_true (List.all_eq_true.mp hcell x hx)) (fun x hx => of_decide_eq_true (List.all_eq_true.mp hloc x (List.mem_reverse.mp hx))) (fun h₁ hns hk₁ => ?_) hco hgen hk
  rw [List.reverse_reverse] at hns
  have hz : s.heap.objs.size ≤ h₁.objs.size := Nat.le_of_lt hns.lt
  have I' : SInv c { s with heap := h₁, toks := s.toks + m.reverse.length } := I.keeps hk₁ hz
  refine wpAny_mono (h s.heap.objs.size { s with heap := h₁, toks := s.toks + m.reverse.length } rfl ⟨I', hns, fun b o e => hk₁ b o (of_hideAll _ e), hide_tabs, ?_, fun _ hp => (nomatch hp), fun _ hp => (nomatch hp), by simp, I.size, fun _ hp => (nomatch hp), by rw [hideAll_size]; exact hz⟩ hk₁ (R.deeper _)) (fun fl s' q => q) (fun _ _ q => q.elim)
  cases q : (hideAll s.heap (tabs ++ l)).get? s.heap.objs.size with
  | none => rfl
  | some o => exact absurd (Heap.lt_size (of_hideAll _ q)) (Nat.lt_irrefl _)

theorem enterL {c : Cx} {k : Nat} {A : Around} {s : Shared} {f : Addr} {args : List Value} (m : List (Str × Value)) {Q : Value → Shared → Prop} {E : Value → Shared → Prop} (l : List Addr)
    (I : SInv c s) (R : Room (k + 1) A) (O : FnOk c.w.params f args m)
    (h : ∀ L s', L = s.heap.objs.size → Bod c (hideAll s.heap (tabs ++ l)) L m [] s' → Kept s.heap s'.heap → Room k (A.deeper (envF c.w.params f L)) →
      wpAny c.M (A.deeper (envF c.w.params f L)) (execs (bodyF c.w.params f) (envF c.w.params f L)) (fun fl s' => Q (match fl with | .ret v => v | _ => .none) s') (fun _ _ => False) s') :
    wpAny c.M A (call (.ref f) args) Q E s := by
  have hB : BindsTo s (fdF c.w.params f) ⟨args, []⟩ m.reverse := O.binds I.kin
  exact enterB l I R O.at_ O.data O.body O.code hB O.cell O.loc O.co O.gen O.kind h

section
variable {c : Cx} {he : Heap} {L : Addr} {m : List (Str × Value)} {mu : List (Addr × Obj)} {s : Shared} {A : Around} {E : Value → Shared → Prop} {env : Env}

/-- a name of the frame's -/
theorem b_name {x : Str} {pos : Pos} {v : Value} {Q : Value → Shared → Prop} (B : Bod c he L m mu s) (hL : env.locals = L) (hv : m.lookup x = some v) (hk : env.scope.kind = .function)
    (hl : env.kindOf x = some .local) (hd : (x == ("__debug__" : Str)) = false) (h : Q v s) : wpAny c.M A (eval (.Name x pos) env) Q E s :=
  wpAny_Name (wpAny_loadName_local (m := fun y => m.lookup y) hk hl (hL ▸ B.ns) hv h) hd

noncomputable def gval (P : Params) (x : Str) : Option Value := match lookIn x (oF P 3) with
  | some (some v) => some v
  | some none => (match lookIn x (oF P 0) with | some (some v) => some v | _ => none)
  | none => none

theorem nsGet_K {a : Addr} {x : Str} {r : Option Value} {Q : Option Value → Shared → Prop} (I : SInv c s) (ha : (KS c.w.params).lookup a = some (oF c.w.params a)) (e : lookIn x (oF c.w.params a) = some r) (h : Q r s) :
    wpAny c.M A (nsGet a x) Q E s := by
  unfold nsGet
  refine wpAny_bind (wpAny_loadPart (inK I ha) ?_)
  rw [nsLook_of e]; exact wpAny_pure h

theorem loadGlobal_K {x : Str} {v : Value} {Q : Value → Shared → Prop} (I : SInv c s) (hg : gval c.w.params x = some v) (h1 : env.globals = 3) (h2 : env.builtins = 0) (h : Q v s) : wpAny c.M A (loadGlobal env x) Q E s := by
  unfold loadGlobal
  rw [h1, h2]
  have k3 : (KS c.w.params).lookup 3 = some (oF c.w.params 3) := by kernel_rfl
  have k0 : (KS c.w.params).lookup 0 = some (oF c.w.params 0) := by kernel_rfl
  unfold gval at hg
  split at hg
  · rename_i v' e
    cases hg
    exact wpAny_bind (nsGet_K I k3 e (wpAny_pure h))
  · rename_i e
    split at hg
    · rename_i v' e'
      cases hg
      exact wpAny_bind (nsGet_K I k3 e (wpAny_bind (nsGet_K I k0 e' (wpAny_pure h))))
    · cases hg
  · cases hg

/-- a global name -/
theorem b_glob {x : Str} {pos : Pos} {v : Value} {Q : Value → Shared → Prop} (B : Bod c he L m mu s) (hg : gval c.w.params x = some v) (hk : env.scope.kind = .function) (h1 : env.globals = 3) (h2 : env.builtins = 0)
    (hl : env.kindOf x = some .globalImplicit) (hd : (x == ("__debug__" : Str)) = false) (h : Q v s) : wpAny c.M A (eval (.Name x pos) env) Q E s :=
  Calls.Name_function_global hk hl (loadGlobal_K B.inv hg h1 h2 h) hd

theorem b_store {x : Str} {v : Value} {Q : Unit → Shared → Prop} (B : Bod c he L m mu s) (hL : env.locals = L) (hk : env.scope.kind = .function) (hl : env.kindOf x = some .local)
    (h : ∀ s', Bod c he L ((x, v) :: m) mu s' → Q () s') : wpAny c.M A (storeName env x v) Q E s := by
  subst hL
  refine wpAny_storeName_local (m := fun y => m.lookup y) hl B.ns (fun h' hn hs => ?_) (by rw [hk]; rfl)
  have ne : ∀ p ∈ mu, p.1 ≠ env.locals := fun p hp q => by
    have := B.nod
    rw [List.nodup_cons] at this
    exact this.1 (q ▸ List.mem_map_of_mem hp)
  have kp : Kept he h' := fun b o e => (hs.2 b fun q => by rw [q, B.hidL] at e; cases e).trans (B.keep b o e)
  refine h _ ⟨B.inv.same B.lowL hs, ?_, kp, B.hidT, B.hidL, B.hidM, fun p hp => (hs.2 _ (ne p hp)).trans (B.own p hp), B.nod, B.lowL, B.lowM, ?_⟩
  · refine hG fun zP zK => ?_
    obtain ⟨o, es, ep, ho, hd, hk', hf⟩ := hn
    refine zK ?_
    refine ⟨o, es, ep, ho, hd, hk', fun y => ?_⟩
    rw [hf y]
    show (if y = x then some v else m.lookup y) = ((x, v) :: m).lookup y
    rw [List.lookup_cons]
    by_cases q : y = x
    · simp [q]
    · have : (y == x) = false := by simpa using q
      rw [if_neg q, this]
  · show he.objs.size ≤ h'.objs.size
    rw [hs.1]; exact B.size

theorem b_str {x : Str} {k pos} {Q : Value → Shared → Prop} (B : Bod c he L m mu s) (h : ∀ t s', Bod c he L m mu s' → Q (.str x t) s') : wpAny c.M A (eval (.Constant (.str x) k pos) env) Q E s :=
  wpAny_Constant_str (h _ _ (B.toks _))
theorem b_int {x : Int} {k pos} {Q : Value → Shared → Prop} (B : Bod c he L m mu s) (h : ∀ t s', Bod c he L m mu s' → Q (.int x t) s') : wpAny c.M A (eval (.Constant (.int x) k pos) env) Q E s :=
  wpAny_Constant_int (h _ _ (B.toks _))
end

theorem look_here {x : Str} {v : Value} {l : List (Str × Value)} : ((x, v) :: l).lookup x = some v := by simp
theorem look_there {x y : Str} {v w : Value} {l : List (Str × Value)} (h : (x == y) = false) (e : l.lookup x = some v) : ((y, w) :: l).lookup x = some v := by rw [List.lookup_cons, h]; exact e

section
variable {c : Cx} {he : Heap} {L : Addr} {m : List (Str × Value)} {mu : List (Addr × Obj)} {s : Shared} {A : Around} {E : Value → Shared → Prop} {env : Env} {x y : Str} {t u : Tok}
open Sem in
theorem b_add_str {Q : Value → Shared → Prop} (B : Bod c he L m mu s) (hz : x.length + y.length ≤ sizeLine) (h : ∀ t s', Bod c he L m mu s' → Q (.str (x ++ y) t) s') :
    wpAny c.M A (binaryOp .Add (.str x t) (.str y u)) Q E s := by
  refine P.add_str ?_
  split
  · rename_i q
    have : x ++ y = y := by
      obtain ⟨xc⟩ := x
      obtain ⟨yc⟩ := y
      have : xc = #[] := Array.eq_empty_of_size_eq_zero (by simpa [PySem.Str.length] using q)
      subst this
      show Str.mk (#[] ++ yc) = _
      rw [Array.empty_append]
    show Q (.str y u) s
    rw [← this]; exact h _ _ B
  · split
    · rename_i q
      have : x ++ y = x := by
        obtain ⟨xc⟩ := x
        obtain ⟨yc⟩ := y
        have : yc = #[] := Array.eq_empty_of_size_eq_zero (by simpa [PySem.Str.length] using q)
        subst this
        show Str.mk (xc ++ #[]) = _
        rw [Array.append_empty]
      show Q (.str x t) s
      rw [← this]; exact h _ _ B
    · refine ⟨?_, h _ _ (B.toks _)⟩
      have : (x ++ y).length = x.length + y.length := by
        show (x.cps ++ y.cps).size = _
        rw [Array.size_append]; rfl
      rw [this]; exact hz

theorem b_eq_str {Q : Value → Shared → Prop} (h : Q (.bool (decide (x = y))) s) : wpAny c.M A (compareOp .Eq (.str x t) (.str y u)) Q E s := by
  refine P.eq_str ?_
  have : (x.cps.toList == y.cps.toList) = decide (x = y) := by
    obtain ⟨⟨xc⟩⟩ := x
    obtain ⟨⟨yc⟩⟩ := y
    by_cases q : xc = yc
    · subst q; simp
    · have h1 : (xc == yc) = false := by simpa using q
      have : ¬ (Str.mk ⟨xc⟩ = Str.mk ⟨yc⟩) := fun e => q (by injection e with e; injection e)
      show (xc == yc) = _
      rw [h1, decide_eq_false this]
  rw [this]; exact h
theorem b_bool {b : Bool} {Q : Bool → Shared → Prop} (h : Q b s) : wpAny c.M A (truthy (.bool b)) Q E s := fun _ _ _ => h
end
end Mine
end
section
namespace Mine
open PySem PySem.W PySem.W.X PyProof.Rows PySem.Calls Builtin Builtin.ObjectAttr

section
variable {prog : Program} {w : World} {A : Around} {E : Value → Shared → Prop} {s : Shared} {K : Frag} {x C : Addr} {ox : Obj} {od : Option Obj} {name : Str}

theorem getMethod_inst {pl : Sem Bool} {Q : Value × List Value → Shared → Prop} {f : Value} {ga tf : String} (X : K.In s.heap) (I : InstAt s.heap x ox C od) (hga : findIn K (.ref C) "__getattribute__" = some (some (.builtin ga)))
    (hcan : Manifest.canonical ga = "object.__getattribute__") (hk : findIn K (.ref C) "__getattr__" = some none)
    (hf : findIn K (.ref C) name = some (some f)) (ht : typeIn K f = some (.type tf)) (htf : (Value.type tf != .type "function" && Value.type tf != .type "method_descriptor" && Value.type tf != .type "wrapper_descriptor") = false)
    (hs : shadowIn od name = some false) (h : Q (f, [.ref x]) s) :
    wpAny (model prog w) A (getMethod (.ref x) name pl) Q E s := by
  unfold getMethod specialOf
  refine wpAny_bind (wpAny_bind (I.type.here ((looks_findIn X hga).here ?_)))
  dsimp only
  rw [hcan, if_neg (by decide)]
  refine wpAny_bind (wpAny_bind (I.type.here ((looks_findIn X hk).here ?_)))
  refine wpAny_bind (wpAny_bind (I.type.here ((looks_findIn X hf).here (wpAny_bind ((looks_typeIn X ht).here ?_)))))
  rw [if_neg (by rw [htf]; decide)]
  refine wpAny_bind (wpAny_loadPart I.at_ ?_)
  have hd := I.dict
  cases e : ox.dict with
  | none => exact wpAny_bind (wpAny_rule (wpAny_pure h))
  | some dx =>
    cases od with
    | none => rw [e] at hd; exact hd.elim
    | some o =>
      rw [e] at hd
      obtain ⟨r, a, b⟩ := Option.map_eq_some_iff.mp hs
      refine wpAny_bind (wpAny_bind (wpAny_loadPart hd ?_))
      rw [nsLook_of a]
      refine wpAny_pure ?_
      rw [b]
      exact wpAny_bind (wpAny_rule (wpAny_pure h))

/-- a method call, the method found as the walk says -/
theorem call_attr {o : Expr} {apos pos : Pos} {args : List Expr} {env : Env} {Q : Value → Shared → Prop}
    (hbase : attributeBase o name env (eval o env) = eval o env)
    (hfew : ((backTo pos (starEach args env)).all (fun x => !x.1) && (backToKw pos (keywordEach [] env)).all (fun x => x.1.isSome)
      && decide (args.length + ([] : List Keyword).length + (if ([] : List Keyword).isEmpty then 0 else 1) < 30)) = true)
    (hline : (apos.endLine == pos.line) = true)
    (h : wpAny (model prog w) A (eval o env) (fun ov s₁ => wpAny (model prog w) A (getMethod ov name (do return (← importBound o env).getD true)) (fun r s₂ => wpAny (model prog w) A (callWith pos r.1 r.2 (backTo pos (starEach args env)) []) Q E s₂) E s₁) E s) :
    wpAny (model prog w) A (eval (.Call (.Attribute o name apos) args [] pos) env) Q E s := by
  rw [arm_eval_Call, hbase]
  refine wpAny_bind (wpAny_mono h (fun ov s₁ h₁ => ?_) fun _ _ e => e)
  refine wpAny_bind (wpAny_standAt ?_)
  have hform : methodCallForm (args.length + ([] : List Keyword).length) (backTo pos (starEach args env)) (backToKw pos (keywordEach [] env)) = true := hfew
  have hpos : methodCallPos true o env apos pos = pure pos := by unfold methodCallPos; simp [hline]
  unfold methodCall
  rw [hform]
  refine wpAny_bind (wpAny_holding ?_)
  refine wpAny_mono (show wpAny (model prog w) A (getMethod ov name (do return (← importBound o env).getD true)) _ _ _ from h₁) (fun r s₂ h₂ => ?_) fun _ _ e => e
  exact wpAny_bind (wpAny_of_eq hpos h₂)


theorem call_L {R : Result → Shared → Prop} {id n : String} {b : Builtin} {rest : List Value} (X : K.In s.heap) (I : InstAt s.heap x ox C od) (hm : mroIn K C (.type "list") = some true)
    (hk : builtinKind id = some .slot ∨ builtinKind id = some .method) (hs : splitId id = some ("list", n)) (hp : plainId id = true) (he : entryFor table id = some b) (ha : argsOk id ⟨.ref x :: rest, []⟩)
    (h : wpAny (model prog w) A.in1 (b ⟨.ref x :: rest, []⟩) (fun fin s' => match fin with | .done f => R (.ok f) s' | .again c' => c'.quiet = true ∧ codeAny (model prog w) A c' R s') (fun e s' => R (.error e) s') s) :
    codeAny (model prog w) A (.call (.builtin id) ⟨.ref x :: rest, []⟩) R s := by
  refine codeAny_call_builtin hp he ?_
  have sub : Looks (model prog w) s.heap (isInstance (.ref x) (.type "list")) true := I.type.andThen (looks_mroIn X hm)
  rcases hk with h1 | h1
  · simp only [checkBuiltinCall, h1, hs]
    refine wpAny_bind (sub.here ?_)
    simp only [Bool.not_true, Bool.false_eq_true, if_false]
    cases hsig : Manifest.signature? id with
    | none => exact wpAny_pure h
    | some sig =>
      simp only [argsOk, hsig] at ha
      have h2 : Bind.checkArgs id sig ⟨.ref x :: rest, []⟩ = pure () := ha
      show wpAny (model prog w) A.in1 (Bind.checkArgs id sig ⟨.ref x :: rest, []⟩) _ _ s
      rw [h2]; exact wpAny_pure h
  · simp only [checkBuiltinCall, h1, hs]
    refine wpAny_bind (sub.here ?_)
    simp only [Bool.not_true, Bool.false_eq_true, if_false]
    cases hsig : Manifest.signature? id with
    | none => exact wpAny_pure h
    | some sig =>
      simp only [argsOk, hsig] at ha
      have h2 : Bind.checkArgs id sig ⟨.ref x :: rest, []⟩ = pure () := ha
      show wpAny (model prog w) A.in1 (Bind.checkArgs id sig ⟨.ref x :: rest, []⟩) _ _ s
      rw [h2]; exact wpAny_pure h

theorem entry_lga : entryFor table "list.__getattribute__" = some Builtin.«object.__getattribute__» :=
  entryFor_alias (id' := "object.__getattribute__") (by rw [fastTable_eq_tree]; kernel_rfl) (by kernel_rfl) (by kernel_rfl) (by rw [fastTable_eq_tree]; kernel_rfl)

theorem get_L {v : Value} {expr : Bool} {Q : Value → Shared → Prop} {b : Builtin} (X : K.In s.heap) (I : InstAt s.heap x ox C od) (hm : mroIn K C (.type "list") = some true)
    (hga : findIn K (.ref C) "__getattribute__" = some (some (.builtin "list.__getattribute__"))) (hk : findIn K (.ref C) "__getattr__" = some none)
    (hf : findObj K C od name = some (.value v)) (hh : handedIn v = true) (h : Q v { s with toks := s.toks + 1 }) : wpAny (model prog w) A (getAttr (.ref x) name expr) Q E s := by
  obtain ⟨hh', g, d, t, os⟩ := s
  have L0 := I.type (M := model prog w)
  have L1 := looks_findIn (M := model prog w) X hga
  have L2 := looks_findIn (M := model prog w) X hk
  have L3 := looks_find (M := model prog w) X I hf
  unfold getAttr getAttrBy
  refine wpAny_bind (wpAny_mkText (wpAny_holding (wpAny_bind (L0.at (wpAny_bind (L1.at ?_))))))
  dsimp only
  have hne : (onTheHeap (Value.ref C) && (Value.builtin "list.__getattribute__" == Value.builtin "object.__getattribute__")) = false := by show (true && _) = false; decide
  rw [if_neg (by rw [hne]; decide)]
  unfold getAttrByItsOwn hookBefore
  refine wpAny_bind ?_
  rw [if_pos (show onTheHeap (Value.ref C) = true from rfl)]
  refine L2.at ?_
  refine wpAny_bind (wpAny_attempt (wpAny_holding ?_))
  have hb : bindSpecial (.builtin "list.__getattribute__") (.ref x) = pure (.builtin "list.__getattribute__", [.ref x]) := by kernel_rfl
  have he : callGetattribute (.ref x) (.str name t) (.builtin "list.__getattribute__") expr = boundAndCalled (.builtin "list.__getattribute__") (.ref x) (.str name t) := by cases expr <;> rfl
  rw [he]
  unfold boundAndCalled
  rw [hb]
  refine wpAny_bind (wpAny_pure ?_)
  refine wpAny_call ?_
  refine call_L (n := "__getattribute__") (b := Builtin.«object.__getattribute__») (s := ⟨hh', g, d, t + 1, os⟩) X I hm (.inl (by kernel_rfl)) (by kernel_rfl) (by kernel_rfl) entry_lga (by unfold argsOk; kernel_rfl) ?_
  unfold Builtin.«object.__getattribute__»
  refine wpAny_bind ?_
  show wpAny _ _ (pure (Value.ref x, [Value.str name t])) _ _ _
  refine wpAny_pure ?_
  dsimp only
  refine wpAny_bind (wpAny_pure (wpAny_bind (L0.at (wpAny_bind (L3.at ?_)))))
  refine wpAny_pure ?_
  show wpAny _ _ (handedOut v) _ _ _
  rw [handedOut_of hh]; exact wpAny_pure h
end
end Mine
end
section
namespace Mine
open PySem PySem.W PySem.W.X PyProof.Rows PySem.Calls Builtin Builtin.ObjectAttr

theorem refuse_acc (x : Addr) : refuseLoop (.ref x) "__setattr__" [.ref 221, .type "list", .type "object"] = pure () := by kernel_rfl
theorem refuse_vf (x : Addr) : refuseLoop (.ref x) "__setattr__" [.ref 137, .type "object"] = pure () := by kernel_rfl

section
variable {c : Cx} {he : Heap} {L : Addr} {m : List (Str × Value)} {mu : List (Addr × Obj)} {s : Shared} {A : Around} {E : Value → Shared → Prop}
/-- an attribute of an own object stored -/
theorem b_setattr {x C dx : Addr} {ox od : Obj} {od' : Tok → Obj} {name : Str} {v : Value} {cd : ClassData} {es : Tok → List DictEntry} {n : Nat} {pre post : List (Addr × Obj)} {Q : Unit → Shared → Prop}
    (B : Bod c he L m mu s) (hmu : mu = pre ++ (dx, od) :: post) (hx : (x, ox) ∈ mu) (hC : ox.cls = .ref C) (hno : notCls ox = true) (hd : ox.dict = some dx)
    (hc : clsIn (KS c.w.params) C = some cd) (hhd : cd.hasDict = true) (hne : cd.mro.isEmpty = false) (hob : cd.mro.contains (.type "object") = true) (hrf : refuseLoop (.ref x) "__setattr__" cd.mro = pure ())
    (hs : findIn (KS c.w.params) (.ref C) "__setattr__" = some (some (.builtin "object.__setattr__"))) (ht : findIn (KS c.w.params) (.ref C) name = some none)
    (hl : (lookIn name od).isSome = true)
    (e : ∀ t, Obj.putName name (PyData.keyHash c.w.params name) (.str name t) v od = od' t) (e' : ∀ t, (od' t).data = .dict (es t).toArray n) (hz : ∀ t, (es t).length ≤ 1000)
    (h : ∀ t s', Bod c he L m (pre ++ (dx, od' t) :: post) s' → Q () s') : wpAny c.M A (setAttr (.ref x) name v) Q E s := by
  subst hmu
  have X := B.inv.kin
  have D : s.heap.get? dx = some od := B.own (dx, od) (by simp)
  have Hx : s.heap.get? x = some ox := B.own (x, ox) hx
  have I : InstAt s.heap x ox C (some od) := ⟨Hx, hC, hno, by rw [hd]; exact D⟩
  refine set_plain X I hs ?_
  have SF := PySem.F.store_object
  have sub : Looks c.M s.heap (isInstance (.ref x) (.type "object")) true := I.type.andThen (looks_mroIn X (by unfold mroIn; rw [hc, Option.bind_some, if_neg (by rw [hne]; decide), hob]))
  refine codeAny_call_builtin SF.slot.plain SF.entry (@check_slot c.M _ _ { s with toks := s.toks + 1 } "object.__setattr__" "object" "__setattr__" (.ref x) [.str name s.toks, v] [] _ SF.kind SF.split sub (SF.args (.ref x) (.str name s.toks) v) ?_)
  have hm : Looks c.M s.heap (mroOf (.ref C)) cd.mro := (looks_clsIn X hc).andThen .now
  rw [osa_eq, refuse_eq]
  obtain ⟨hh, g, d, t, os⟩ := s
  refine wpAny_bind (wpAny_bind (I.type.at (wpAny_bind (hm.at ?_))))
  rw [hrf]
  refine wpAny_pure (wpAny_bind (I.type.at (wpAny_bind ((looks_findIn X ht).at (wpAny_bind ?_)))))
  show wpAny _ _ (pure none) _ _ _
  refine wpAny_pure ?_
  dsimp only
  unfold storeInOwnDict
  obtain ⟨oc, odi, oda, osl⟩ := ox
  dsimp only at hC hd
  subst hC hd
  have U := B.upd (f := Obj.putName name (PyData.keyHash c.w.params name) (.str name (t + 1)) v) (t := t + 1 + 1) rfl (e (t + 1)) (by have q := e' (t + 1); generalize od' (t + 1) = o9 at q; obtain ⟨_, _, dd, _⟩ := o9; cases q; rfl)
  have D' := U.own (dx, od' (t + 1)) (by simp)
  dsimp only at Hx D D'
  refine wpAny_bind (wpAny_pure (wpAny_bind (wpAny_bind (wpAny_loadPart (s := ⟨hh, g, d, t + 1, os⟩) Hx (wpAny_bind ((looks_clsIn X hc).at ?_))))))
  rw [hhd]
  refine wpAny_pure (a := some dx) (wpAny_bind (wpAny_pure (wpAny_bind ?_)))
  unfold nsSet
  refine wpAny_bind (wpAny_bind (wpAny_askSetting (wpAny_pure (wpAny_bind (wpAny_mkText (wpAny_bind (wpAny_loadPart (s := ⟨hh, g, d, t + 1 + 1, os⟩) D ?_)))))))
  unfold lookIn at hl
  split at hl
  · rename_i es₀ n₀ q
    rw [q]
    dsimp only
    have cc : (!es₀.any (·.key.isStr name) && es₀.any (·.refKey)) = false := by
      rw [← Array.any_toList, ← Array.any_toList]
      split at hl
      · rename_i en hen
        rw [List.any_eq_true.mpr ⟨en, List.mem_of_find?_eq_some hen, List.find?_some hen⟩]; rfl
      · split at hl
        · cases hl
        · rename_i z; rw [Bool.not_eq_true] at z; rw [z, Bool.and_false]
    rw [aRefKeyMayBeTheName_at, cc]
    refine wpAny_updatePart (s := ⟨hh, g, d, t + 1 + 1, os⟩) D ?_
    refine wpAny_bind (wpAny_lookBehind D' (by rw [e']; exact pastItsLine_dict (by have := hz (t + 1); rw [List.size_toArray, sizeLine_eq]; omega)) ?_)
    exact wpAny_pure (h _ _ U)
  · cases hl

/-- an attribute of an own object read -/
theorem b_getattr {x C dx : Addr} {ox od : Obj} {name : Str} {v : Value} {expr : Bool} {Q : Value → Shared → Prop} (B : Bod c he L m mu s) (hx : (x, ox) ∈ mu) (hdx : (dx, od) ∈ mu) (hC : ox.cls = .ref C) (hno : notCls ox = true) (hd : ox.dict = some dx)
    (hga : findIn (KS c.w.params) (.ref C) "__getattribute__" = some (some (.builtin "object.__getattribute__")))
    (hf : findObj (KS c.w.params) C (some od) name = some (.value v)) (hh : handedIn v = true) (h : ∀ s', Bod c he L m mu s' → Q v s') : wpAny c.M A (getAttr (.ref x) name expr) Q E s :=
  get_value B.inv.kin ⟨B.own _ hx, hC, hno, by rw [hd]; exact B.own _ hdx⟩ hga hf hh (h _ (B.toks _))

theorem b_getattrL {x C dx : Addr} {ox od : Obj} {name : Str} {v : Value} {expr : Bool} {Q : Value → Shared → Prop} (B : Bod c he L m mu s) (hx : (x, ox) ∈ mu) (hdx : (dx, od) ∈ mu) (hC : ox.cls = .ref C) (hno : notCls ox = true) (hd : ox.dict = some dx)
    (hm : mroIn (KS c.w.params) C (.type "list") = some true)
    (hga : findIn (KS c.w.params) (.ref C) "__getattribute__" = some (some (.builtin "list.__getattribute__"))) (hk : findIn (KS c.w.params) (.ref C) "__getattr__" = some none)
    (hf : findObj (KS c.w.params) C (some od) name = some (.value v)) (hh : handedIn v = true) (h : ∀ s', Bod c he L m mu s' → Q v s') : wpAny c.M A (getAttr (.ref x) name expr) Q E s :=
  get_L (b := Builtin.«object.__getattribute__») B.inv.kin ⟨B.own _ hx, hC, hno, by rw [hd]; exact B.own _ hdx⟩ hm hga hk hf hh (h _ (B.toks _))

/-- the method of an own object found -/
theorem b_method {x C dx : Addr} {ox od : Obj} {name : Str} {f : Value} {ga tf : String} {pl : Sem Bool} {Q : Value × List Value → Shared → Prop} (B : Bod c he L m mu s) (hx : (x, ox) ∈ mu) (hdx : (dx, od) ∈ mu) (hC : ox.cls = .ref C) (hno : notCls ox = true) (hd : ox.dict = some dx)
    (hga : findIn (KS c.w.params) (.ref C) "__getattribute__" = some (some (.builtin ga))) (hcan : Manifest.canonical ga = "object.__getattribute__") (hk : findIn (KS c.w.params) (.ref C) "__getattr__" = some none)
    (hf : findIn (KS c.w.params) (.ref C) name = some (some f)) (ht : typeIn (KS c.w.params) f = some (.type tf)) (htf : (Value.type tf != .type "function" && Value.type tf != .type "method_descriptor" && Value.type tf != .type "wrapper_descriptor") = false)
    (hs : shadowIn (some od) name = some false) (h : Q (f, [.ref x]) s) : wpAny c.M A (getMethod (.ref x) name pl) Q E s :=
  getMethod_inst B.inv.kin ⟨B.own _ hx, hC, hno, by rw [hd]; exact B.own _ hdx⟩ hga hcan hk hf ht htf hs h
end
end Mine
end
section
namespace Mine
open PySem PySem.W PySem.W.X PyProof.Rows PySem.Calls Builtin Builtin.ObjectAttr Builtin.List

theorem sizeLine_val : sizeLine = 16777216 := sizeLine_eq

section
variable {c : Cx} {he : Heap} {L : Addr} {m : List (Str × Value)} {mu pre post : List (Addr × Obj)} {s : Shared} {A : Around} {E : Value → Shared → Prop}
  {a : Addr} {cl : Value} {dd : Option Addr} {items : Array Value} {ep : Nat} {sl : Array (Option Value)}

/-- the items of a sequence of the ledger turned -/
theorem b_updateSeq {f : Array Value → Array Value} {Q : Unit → Shared → Prop} (B : Bod c he L m mu s) (hmu : mu = pre ++ (a, ⟨cl, dd, .seq items ep, sl⟩) :: post) (hz : (f items).size ≤ sizeLine)
    (h : ∀ ep' s', Bod c he L m (pre ++ (a, ⟨cl, dd, .seq (f items) ep', sl⟩) :: post) s' → Q () s') : wpAny c.M A (updateSeq a f) Q E s := by
  subst hmu
  have D : s.heap.get? a = some ⟨cl, dd, .seq items ep, sl⟩ := B.own (a, ⟨cl, dd, .seq items ep, sl⟩) (by simp)
  have U := B.upd (f := Obj.mapSeq f) (t := s.toks) rfl rfl rfl
  have D' := U.own (a, Obj.mapSeq f ⟨cl, dd, .seq items ep, sl⟩) (by simp)
  unfold updateSeq
  refine wpAny_bind (wpAny_load D ?_)
  dsimp only
  refine wpAny_bind (wpAny_update D ?_)
  refine wpAny_lookBehind D' ?_ (h _ _ U)
  exact pastItsLine_seq (Nat.le_succ_of_le hz)


theorem append_body {v : Value} {Q : Fin → Shared → Prop} (B : Bod c he L m mu s) (hmu : mu = pre ++ (a, ⟨cl, dd, .seq items ep, sl⟩) :: post) (hz : items.size + 1 ≤ sizeLine)
    (h : ∀ ep' s', Bod c he L m (pre ++ (a, ⟨cl, dd, .seq (items.push v) ep', sl⟩) :: post) s' → Q (.done (.ret .none)) s') : wpAny c.M A (Builtin.«list.append» ⟨[.ref a, v], []⟩) Q E s := by
  unfold Builtin.«list.append»
  refine wpAny_bind ?_
  show wpAny _ _ (pure (Value.ref a, v)) _ _ _
  refine wpAny_pure ?_
  dsimp only
  refine wpAny_bind ?_
  unfold listUpdate
  refine b_updateSeq B hmu (by rw [Array.size_push]; exact hz) (fun ep' s' B' => ?_)
  exact wpAny_pure (h ep' s' B')

/-- list.append on an object of the text's own list class -/
theorem b_appendL {C : Addr} {v : Value} {Q : Value → Shared → Prop} (B : Bod c he L m mu s) (hmu : mu = pre ++ (a, ⟨.ref C, dd, .seq items ep, sl⟩) :: post) (hd : (dx, od) ∈ mu) (hdd : dd = some dx) (hm : mroIn (KS c.w.params) C (.type "list") = some true) (hz : items.size + 1 ≤ sizeLine)
    (h : ∀ ep' s', Bod c he L m (pre ++ (a, ⟨.ref C, dd, .seq (items.push v) ep', sl⟩) :: post) s' → Q .none s') : wpAny c.M A (call (.builtin "list.append") [.ref a, v]) Q E s := by
  refine wpAny_call ?_
  have I : InstAt s.heap a ⟨.ref C, dd, .seq items ep, sl⟩ C (some od) := ⟨B.own (a, ⟨.ref C, dd, .seq items ep, sl⟩) (by rw [hmu]; simp), rfl, rfl, by rw [hdd]; exact B.own _ hd⟩
  refine call_L (n := "append") (b := Builtin.«list.append») B.inv.kin I hm (.inr (by kernel_rfl)) (by kernel_rfl) (by kernel_rfl) (entryFor_of_tree (by kernel_rfl)) (by unfold argsOk; kernel_rfl) ?_
  exact append_body B hmu hz (fun ep' s' B' => h ep' s' B')

/-- list.append on a list of the ledger -/
theorem b_append {v : Value} {Q : Value → Shared → Prop} (B : Bod c he L m mu s) (hmu : mu = pre ++ (a, ⟨.type "list", dd, .seq items ep, sl⟩) :: post) (hz : items.size + 1 ≤ sizeLine)
    (h : ∀ ep' s', Bod c he L m (pre ++ (a, ⟨.type "list", dd, .seq (items.push v) ep', sl⟩) :: post) s' → Q .none s') : wpAny c.M A (call (.builtin "list.append") [.ref a, v]) Q E s := by
  have S : Slot "list" "append" "list.append" := .of (owner := "list") (n := "append") (by rw [typeLookup_type, builtinLookup_eq_fast]; kernel_rfl) (by decide +kernel) (by decide +kernel) (by decide +kernel)
    (by first | exact .inl (by decide +kernel) | exact .inr (by decide +kernel)) (by rw [isSubtype_type]; kernel_rfl)
  refine wpAny_call_entry S ⟨_, B.own (a, ⟨.type "list", dd, .seq items ep, sl⟩) (by rw [hmu]; simp), rfl⟩ (entryFor_of_tree (b := Builtin.«list.append») (by kernel_rfl)) ?_ (by unfold argsOk; kernel_rfl)
  exact append_body B hmu hz (fun ep' s' B' => ⟨_, rfl, h ep' s' B'⟩)
end
end Mine
end
local macro_rules | `(tactic| walk_at "nm") => `(tactic| refine Mine.b_name (by assumption) (Mine.envF_locals _ _ _) (by rfl) (by kernel_rfl) (by kernel_rfl) (by kernel_rfl) ?_)
local macro_rules | `(tactic| walk_at "fn") => `(tactic| exact ⟨by kernel_rfl, by kernel_rfl, by kernel_rfl, by kernel_rfl, .inl (by kernel_rfl), by kernel_rfl, by kernel_rfl, by kernel_rfl, by kernel_rfl, by kernel_rfl⟩)
local macro_rules | `(tactic| walk_at "fnd") => `(tactic| exact ⟨by kernel_rfl, by kernel_rfl, by kernel_rfl, by kernel_rfl, .inr (fun _ => by kernel_rfl), by kernel_rfl, by kernel_rfl, by kernel_rfl, by kernel_rfl, by kernel_rfl⟩)
local macro_rules | `(tactic| walk_at "sz") => `(tactic| (rw [Mine.sizeLine_val]; exact Nat.le_of_ble_eq_true rfl))
section
namespace Mine
open PySem PySem.W PySem.W.X PyProof.Rows PySem.Calls

/-- what a call leaves that turns the objects mu into mu' and makes the objects nw -/
structure MEv (c : Cx) (mu mu' nw : List (Addr × Obj)) (s s' : Shared) : Prop where
  inv : SInv c s'
  keep : ∀ b o, s.heap.get? b = some o → b ∉ tabs → b ∉ mu.map (·.1) → s'.heap.get? b = some o
  size : s.heap.objs.size ≤ s'.heap.objs.size
  adr : mu'.map (·.1) = mu.map (·.1)
  own : ∀ p ∈ mu', s'.heap.get? p.1 = some p.2
  new : ∀ p ∈ nw, s'.heap.get? p.1 = some p.2 ∧ s.heap.objs.size ≤ p.1
  nod : (nw.map (·.1)).Nodup

namespace Bod
variable {c : Cx} {he : Heap} {L : Addr} {m : List (Str × Value)} {mu mu' nw rest : List (Addr × Obj)} {s s₀ s' : Shared}

theorem mev (B : Bod c (hideAll s₀.heap (tabs ++ mu.map (·.1))) L m (mu' ++ (nw ++ rest)) s) (ha : mu'.map (·.1) = mu.map (·.1)) (hn : ∀ p ∈ nw, s₀.heap.objs.size ≤ p.1) : MEv c mu mu' nw s₀ s := by
  refine ⟨B.inv, fun b o e h1 h2 => B.keep b o (hideAll_get _ e (by simp only [List.mem_append, not_or]; exact ⟨h1, h2⟩)), ?_, ha, fun p hp => B.own p (List.mem_append_left _ hp), fun p hp => ⟨B.own p (List.mem_append_right _ (List.mem_append_left _ hp)), hn p hp⟩, ?_⟩
  · have := B.size; rwa [hideAll_size] at this
  · have := B.nod
    simp only [List.map_append, List.nodup_cons] at this
    have := this.2
    rw [List.nodup_append] at this
    have := this.2.1
    rw [List.nodup_append] at this
    exact this.1

theorem turned (B : Bod c he L m (mu ++ rest) s) (x : MEv c mu mu' nw s s') : Bod c he L m (mu' ++ (nw ++ rest)) s' := by
  have hnod := B.nod
  simp only [List.map_append, List.nodup_cons, List.mem_append, not_or] at hnod
  obtain ⟨⟨hL1, hL2⟩, hn⟩ := hnod
  rw [List.nodup_append] at hn
  obtain ⟨hn1, hn2, hn3⟩ := hn
  have kp : ∀ b o, s.heap.get? b = some o → 270 ≤ b → b ∉ mu.map (·.1) → s'.heap.get? b = some o := fun b o e h1 h2 => x.keep b o e (notTab b h1) h2
  have memU : ∀ p ∈ mu', ∃ q ∈ mu, q.1 = p.1 := fun p hp => by
    have : p.1 ∈ mu.map (·.1) := x.adr ▸ List.mem_map_of_mem hp
    obtain ⟨q, hq, e⟩ := List.mem_map.mp this
    exact ⟨q, hq, e⟩
  have old : ∀ b o, he.get? b = some o → b < s.heap.objs.size := fun b o e => Heap.lt_size (B.keep b o e)
  have hdN : ∀ p ∈ nw, he.get? p.1 = none := fun p hp => by
    cases q : he.get? p.1 with
    | none => rfl
    | some o => exact absurd (old _ _ q) (Nat.not_lt.mpr (x.new p hp).2)
  refine ⟨x.inv, ?_, fun b o e => ?_, B.hidT, B.hidL, ?_, ?_, ?_, B.lowL, ?_, Nat.le_trans B.size x.size⟩
  · obtain ⟨o, es, ep, ho, r⟩ := B.ns
    exact ⟨o, es, ep, kp _ _ ho B.lowL hL1, r⟩
  · refine x.keep b o (B.keep b o e) (fun hm => ?_) fun hm => ?_
    · rw [B.hidT b hm] at e; cases e
    · obtain ⟨p, hp, rfl⟩ := List.mem_map.mp hm
      rw [B.hidM p (List.mem_append_left _ hp)] at e; cases e
  · intro p hp
    rcases List.mem_append.mp hp with hp | hp
    · obtain ⟨q, hq, e⟩ := memU p hp; rw [← e]; exact B.hidM q (List.mem_append_left _ hq)
    · rcases List.mem_append.mp hp with hp | hp
      · exact hdN p hp
      · exact B.hidM p (List.mem_append_right _ hp)
  · intro p hp
    rcases List.mem_append.mp hp with hp | hp
    · exact x.own p hp
    · rcases List.mem_append.mp hp with hp | hp
      · exact (x.new p hp).1
      · refine kp _ _ (B.own p (List.mem_append_right _ hp)) (B.lowM p (List.mem_append_right _ hp)) fun hm => ?_
        exact hn3 _ hm _ (List.mem_map_of_mem hp) rfl
  · simp only [List.map_append, List.nodup_cons, List.mem_append, not_or, x.adr]
    have ltL : L < s.heap.objs.size := B.ns.lt
    refine ⟨⟨hL1, fun hm => ?_, hL2⟩, ?_⟩
    · obtain ⟨p, hp, e⟩ := List.mem_map.mp hm
      exact absurd (e ▸ (x.new p hp).2) (Nat.not_le.mpr ltL)
    · rw [List.nodup_append]
      refine ⟨hn1, ?_, ?_⟩
      · rw [List.nodup_append]
        refine ⟨x.nod, hn2, fun a ha b hb e => ?_⟩
        obtain ⟨p, hp, rfl⟩ := List.mem_map.mp ha
        obtain ⟨q, hq, rfl⟩ := List.mem_map.mp hb
        exact absurd (Heap.lt_size (B.own q (List.mem_append_right _ hq))) (Nat.not_lt.mpr (e ▸ (x.new p hp).2))
      · intro a ha b hb e
        obtain ⟨p, hp, rfl⟩ := List.mem_map.mp ha
        rcases List.mem_append.mp hb with hb | hb
        · obtain ⟨q, hq, rfl⟩ := List.mem_map.mp hb
          exact absurd (Heap.lt_size (B.own p (List.mem_append_left _ hp))) (Nat.not_lt.mpr (e ▸ (x.new q hq).2))
        · exact hn3 _ (List.mem_map_of_mem hp) _ hb e
  · intro p hp
    rcases List.mem_append.mp hp with hp | hp
    · obtain ⟨q, hq, e⟩ := memU p hp; rw [← e]; exact B.lowM q (List.mem_append_left _ hq)
    · rcases List.mem_append.mp hp with hp | hp
      · exact Nat.le_trans B.inv.size (x.new p hp).2
      · exact B.lowM p (List.mem_append_right _ hp)

/-- the ledger in another order -/
theorem perm (B : Bod c he L m mu s) (h : mu.Perm mu') : Bod c he L m mu' s :=
  ⟨B.inv, B.ns, B.keep, B.hidT, B.hidL, fun p hp => B.hidM p (h.mem_iff.mpr hp), fun p hp => B.own p (h.mem_iff.mpr hp),
    (List.Perm.nodup_iff (List.Perm.cons _ (h.map _))).mp B.nod, B.lowL, fun p hp => B.lowM p (h.mem_iff.mpr hp), B.size⟩

/-- names looked up alike -/
theorem ren (B : Bod c he L m mu s) {m' : List (Str × Value)} (h : ∀ x, m.lookup x = m'.lookup x) : Bod c he L m' mu s :=
  ⟨B.inv, (funext h : (fun x => m.lookup x) = fun x => m'.lookup x) ▸ B.ns, B.keep, B.hidT, B.hidL, B.hidM, B.own, B.nod, B.lowL, B.lowM, B.size⟩

/-- old objects taken into the ledger, hidden in he -/
theorem takeAll {l : List Addr} (B : Bod c (hideAll s₀.heap (tabs ++ l)) L m [] s) (k : Kept s₀.heap s.heap) (hL : s₀.heap.objs.size ≤ L) (hm : ∀ p ∈ mu, s₀.heap.get? p.1 = some p.2 ∧ 270 ≤ p.1) (hl : l = mu.map (·.1)) (hn : (mu.map (·.1)).Nodup) :
    Bod c (hideAll s₀.heap (tabs ++ mu.map (·.1))) L m mu s := by
  subst hl
  refine ⟨B.inv, B.ns, B.keep, B.hidT, B.hidL, fun p hp => hideAll_none _ (List.mem_append_right _ (List.mem_map_of_mem hp)), fun p hp => k _ _ (hm p hp).1, ?_, B.lowL, fun p hp => (hm p hp).2, B.size⟩
  rw [List.nodup_cons]
  refine ⟨fun q => ?_, hn⟩
  obtain ⟨p, hp, e⟩ := List.mem_map.mp q
  exact absurd (Heap.lt_size (hm p hp).1) (Nat.not_lt.mpr (e ▸ hL))
end Bod

/-- what a caller knows of the objects that a call may turn -/
structure Has (mu : List (Addr × Obj)) (s : Shared) : Prop where
  own : ∀ p ∈ mu, s.heap.get? p.1 = some p.2 ∧ 270 ≤ p.1
  nod : (mu.map (·.1)).Nodup

theorem Bod.has {c : Cx} {he : Heap} {L : Addr} {m : List (Str × Value)} {mu rest : List (Addr × Obj)} {s : Shared} (B : Bod c he L m (mu ++ rest) s) : Has mu s :=
  ⟨fun p hp => ⟨B.own p (List.mem_append_left _ hp), B.lowM p (List.mem_append_left _ hp)⟩, by
    have := B.nod
    simp only [List.map_append, List.nodup_cons] at this
    have := this.2
    rw [List.nodup_append] at this
    exact this.1⟩

/-- entering a def that may turn the objects mu -/
theorem enterM {c : Cx} {k : Nat} {A : Around} {s : Shared} {f : Addr} {args : List Value} (m : List (Str × Value)) {Q : Value → Shared → Prop} {E : Value → Shared → Prop} {mu : List (Addr × Obj)}
    (I : SInv c s) (R : Room (k + 1) A) (H : Has mu s) (O : FnOk c.w.params f args m)
    (h : ∀ L s', L = s.heap.objs.size → Bod c (hideAll s.heap (tabs ++ mu.map (·.1))) L m mu s' → Room k (A.deeper (envF c.w.params f L)) →
      wpAny c.M (A.deeper (envF c.w.params f L)) (execs (bodyF c.w.params f) (envF c.w.params f L)) (fun fl s' => Q (match fl with | .ret v => v | _ => .none) s') (fun _ _ => False) s') :
    wpAny c.M A (call (.ref f) args) Q E s :=
  enterL m (mu.map (·.1)) I R O fun L s' eL B kp R' => h L s' eL (B.takeAll kp (Nat.le_of_eq eL.symm) H.own rfl H.nod) R'
end Mine
end
section
namespace Mine
open PySem PySem.W PySem.W.X PyProof.Rows PySem.Calls

noncomputable def noStar : Expr → Bool
  | .Starred .. => false
  | _ => true
noncomputable def noStars : List Expr → Bool
  | [] => true
  | e :: r => noStar e && noStars r
theorem starEach_of {e : Expr} {rest : List Expr} {env : Env} (h : noStar e = true) : starEach (e :: rest) env = (false, eval e env) :: starEach rest env := by
  cases e <;> first | rfl | cases h
theorem backTo_none {pos : Pos} {env : Env} : ∀ {l : List Expr}, noStars l = true → (backTo pos (starEach l env)).any (·.1) = false
  | [], _ => rfl
  | e :: r, h => by
    obtain ⟨h1, h2⟩ := Bool.and_eq_true_iff.mp h
    rw [starEach_of h1]
    show (false || (backTo pos (starEach r env)).any (·.1)) = false
    rw [backTo_none h2]; rfl
theorem backTo_all {pos : Pos} {env : Env} : ∀ {l : List Expr}, noStars l = true → (backTo pos (starEach l env)).all (fun x => !x.1) = true
  | [], _ => rfl
  | e :: r, h => by
    obtain ⟨h1, h2⟩ := Bool.and_eq_true_iff.mp h
    rw [starEach_of h1]
    show (true && (backTo pos (starEach r env)).all (fun x => !x.1)) = true
    rw [backTo_all h2]; rfl
noncomputable def plainBase : Expr → Bool
  | .Call .. => false
  | _ => true
theorem base_of {o : Expr} {n : Str} {env : Env} {w : Sem Value} (h : plainBase o = true) : attributeBase o n env w = w := by
  cases o <;> first | rfl | cases h

section
variable {M : Model} {A : Around} {E : Value → Shared → Prop} {s : Shared} {env : Env} {pos : Pos}

theorem a_cons {e : Expr} {rest : List Expr} {Q : List Value → Shared → Prop}
    (h : wpAny M A (eval e env) (fun v s₁ => wpAny M A (spliced (backTo pos (starEach rest env))) (fun vs s₂ => Q (v :: vs) s₂) E s₁) E s) (he : noStar e = true := by rfl) :
    wpAny M A (spliced (backTo pos (starEach (e :: rest) env))) Q E s := by
  rw [starEach_of he]; exact spliced_cons h
theorem a_nil {Q : List Value → Shared → Prop} (h : Q [] s) : wpAny M A (spliced (backTo pos (starEach [] env))) Q E s := spliced_nil h

variable {Q : Value → Shared → Prop}
theorem cw_builtin {id : String} {first : List Value} {e : Expr} {rest : List Expr}
    (h : wpAny M A (spliced (backTo pos (starEach (e :: rest) env))) (fun vs s₁ => wpAny M A (call (.builtin id) (first ++ vs)) Q E s₁) E s) (he : noStars (e :: rest) = true := by rfl) :
    wpAny M A (callWith pos (.builtin id) first (backTo pos (starEach (e :: rest) env)) []) Q E s := by
  have hp := backTo_none (pos := pos) (env := env) he
  obtain ⟨h1, h2⟩ := Bool.and_eq_true_iff.mp he
  rw [starEach_of h1] at h hp ⊢
  exact callWith_builtin hp (evalArgs_plain h)
theorem cw_builtin0 {id : String} {first : List Value} (h : wpAny M A (call (.builtin id) (first ++ [])) Q E s) : wpAny M A (callWith pos (.builtin id) first (backTo pos (starEach [] env)) []) Q E s :=
  callWith_builtin rfl (PyProof.Rows.evalArgs_none h)
theorem cw_type {id : String} {first : List Value} {e : Expr} {rest : List Expr}
    (h : wpAny M A (spliced (backTo pos (starEach (e :: rest) env))) (fun vs s₁ => wpAny M A (call (.type id) (first ++ vs)) Q E s₁) E s) (he : noStars (e :: rest) = true := by rfl) :
    wpAny M A (callWith pos (.type id) first (backTo pos (starEach (e :: rest) env)) []) Q E s := by
  have hp := backTo_none (pos := pos) (env := env) he
  obtain ⟨h1, h2⟩ := Bool.and_eq_true_iff.mp he
  rw [starEach_of h1] at h hp ⊢
  exact PyProof.Rows.callWith_type hp (evalArgs_plain h)

/-- a call of a def of the text, first the bound self -/
theorem cw_def {c : Cx} {f : Addr} {first : List Value} {e : Expr} {rest : List Expr} (ho : (KS c.w.params).lookup f = some (oF c.w.params f)) (hd : (oF c.w.params f).data = .func (fdF c.w.params f))
    (h : wpAny c.M A (spliced (backTo pos (starEach (e :: rest) env))) (fun vs s₁ => SInv c s₁ ∧ wpAny c.M A (call (.ref f) (first ++ vs)) Q E s₁) E s) (he : noStars (e :: rest) = true := by rfl) :
    wpAny c.M A (callWith pos (.ref f) first (backTo pos (starEach (e :: rest) env)) []) Q E s := by
  obtain ⟨h1, h2⟩ := Bool.and_eq_true_iff.mp he
  rw [starEach_of h1] at h ⊢
  exact callWith_function (o := oF c.w.params f) (fd := fdF c.w.params f) (evalArgs_plain (wpAny_mono h (fun vs s₁ h₁ => ⟨⟨inK h₁.1 ho, hd⟩, h₁.2⟩) fun _ _ x => x))
theorem cw_def0 {c : Cx} {f : Addr} {first : List Value} (ho : (KS c.w.params).lookup f = some (oF c.w.params f)) (hd : (oF c.w.params f).data = .func (fdF c.w.params f))
    (I : SInv c s) (h : wpAny c.M A (call (.ref f) (first ++ [])) Q E s) :
    wpAny c.M A (callWith pos (.ref f) first (backTo pos (starEach [] env)) []) Q E s :=
  callWith_function (o := oF c.w.params f) (fd := fdF c.w.params f) (PyProof.Rows.evalArgs_none ⟨⟨inK I ho, hd⟩, h⟩)

theorem c_attr {prog : Program} {w : World} {o : Expr} {name : Str} {apos pos : Pos} {args : List Expr}
    (h : wpAny (model prog w) A (eval o env) (fun ov s₁ => wpAny (model prog w) A (getMethod ov name (do return (← importBound o env).getD true)) (fun r s₂ => wpAny (model prog w) A (callWith pos r.1 r.2 (backTo pos (starEach args env)) []) Q E s₂) E s₁) E s)
    (hb : plainBase o = true := by rfl) (hst : noStars args = true := by rfl) (hn : Nat.blt args.length 30 = true := by rfl) (hline : (apos.endLine == pos.line) = true := by rfl) :
    wpAny (model prog w) A (eval (.Call (.Attribute o name apos) args [] pos) env) Q E s := by
  refine call_attr (base_of hb) ?_ hline h
  have : args.length < 30 := Nat.le_of_ble_eq_true hn
  rw [backTo_all hst]
  show (true && decide (args.length + 0 + 0 < 30)) = true
  rw [decide_eq_true (by omega)]; rfl

theorem c_name {x : Str} {p pos : Pos} {args : List Expr} (h : wpAny M A (eval (.Name x p) env) (fun f s₁ => wpAny M A (callWith pos f [] (backTo pos (starEach args env)) []) Q E s₁) E s) :
    wpAny M A (eval (.Call (.Name x p) args [] pos) env) Q E s := wpAny_Call_NameR h
end

noncomputable abbrev tupO (vs : List Value) : Obj := ⟨.type "tuple", none, .seq vs.toArray 0, #[]⟩
noncomputable abbrev lstO (vs : Array Value) (ep : Nat) : Obj := ⟨.type "list", none, .seq vs ep, #[]⟩

section
variable {c : Cx} {A : Around} {E : Value → Shared → Prop} {s : Shared} {env : Env} {elts : List Expr} {k : Nat} {pos : Pos} {Q : Value → Shared → Prop}
/-- a tuple display -/
theorem e_tuple (h : wpAny c.M A (spliced (backTo pos (starEach elts env))) (fun vs s₁ => vs.length ≤ sizeLine ∧ ∃ he L m mu, Bod c he L m mu s₁ ∧ ∀ a s', Bod c he L m ((a, tupO vs) :: mu) s' → he.objs.size ≤ a → Q (.ref a) s') E s) :
    wpAny c.M A (eval (.Tuple elts k pos) env) Q E s :=
  wpAny_Tuple (wpAny_mono h (fun vs s₁ x => by
    refine hG fun zP zK => ?_
    obtain ⟨hz, he, L, m, mu, B, y⟩ := x
    refine zK ?_
    exact ⟨hz, y _ _ (B.alloc _ s₁.toks rfl) B.size⟩) fun _ _ e => e)
/-- a list display -/
theorem e_list (h : wpAny c.M A (spliced (backTo pos (starEach elts env))) (fun vs s₁ => vs.length ≤ sizeLine ∧ ∃ he L m mu, Bod c he L m mu s₁ ∧ ∀ a s', Bod c he L m ((a, lstO vs.toArray 0) :: mu) s' → he.objs.size ≤ a → Q (.ref a) s') E s) :
    wpAny c.M A (eval (.List elts pos) env) Q E s :=
  wpAny_List (wpAny_mono h (fun vs s₁ x => by
    refine hG fun zP zK => ?_
    obtain ⟨hz, he, L, m, mu, B, y⟩ := x
    refine zK ?_
    exact ⟨hz, y _ _ (B.alloc _ s₁.toks rfl) B.size⟩) fun _ _ e => e)
/-- the same, where what comes after stands behind a name -/
theorem e_tupleQ (h : ∀ (K : List Value → Shared → Prop) (E' : Value → Shared → Prop), (∀ vs s₁ he L m mu, vs.length ≤ sizeLine → Bod c he L m mu s₁ → (∀ a s', Bod c he L m ((a, tupO vs) :: mu) s' → he.objs.size ≤ a → Q (.ref a) s') → K vs s₁) →
    wpAny c.M A (spliced (backTo pos (starEach elts env))) K E' s) : wpAny c.M A (eval (.Tuple elts k pos) env) Q E s :=
  e_tuple (h _ E fun vs s₁ he L m mu a b d => ⟨a, he, L, m, mu, b, d⟩)
theorem e_listQ (h : ∀ (K : List Value → Shared → Prop) (E' : Value → Shared → Prop), (∀ vs s₁ he L m mu, vs.length ≤ sizeLine → Bod c he L m mu s₁ → (∀ a s', Bod c he L m ((a, lstO vs.toArray 0) :: mu) s' → he.objs.size ≤ a → Q (.ref a) s') → K vs s₁) →
    wpAny c.M A (spliced (backTo pos (starEach elts env))) K E' s) : wpAny c.M A (eval (.List elts pos) env) Q E s :=
  e_list (h _ E fun vs s₁ he L m mu a b d => ⟨a, he, L, m, mu, b, d⟩)
end
end Mine
end
section
namespace Mine
open PySem PySem.W PySem.W.X PyProof.Rows PySem.Calls
variable (P : Params)
theorem fa_ga : findIn (KS P) (.ref 221) "__getattribute__" = some (some (.builtin "list.__getattribute__")) := by kernel_rfl
theorem fa_gk : findIn (KS P) (.ref 221) "__getattr__" = some none := by kernel_rfl
theorem fa_mro : mroIn (KS P) 221 (.type "list") = some true := by kernel_rfl
theorem fa_set : findIn (KS P) (.ref 221) "__setattr__" = some (some (.builtin "object.__setattr__")) := by kernel_rfl
theorem ff_ga : findIn (KS P) (.ref 137) "__getattribute__" = some (some (.builtin "object.__getattribute__")) := by kernel_rfl
theorem ff_gk : findIn (KS P) (.ref 137) "__getattr__" = some none := by kernel_rfl
theorem ff_set : findIn (KS P) (.ref 137) "__setattr__" = some (some (.builtin "object.__setattr__")) := by kernel_rfl
theorem can_l : Manifest.canonical "list.__getattribute__" = "object.__getattribute__" := by kernel_rfl
theorem can_o : Manifest.canonical "object.__getattribute__" = "object.__getattribute__" := by kernel_rfl
theorem tf_f : (Value.type "function" != .type "function" && Value.type "function" != .type "method_descriptor" && Value.type "function" != .type "wrapper_descriptor") = false := by kernel_rfl
theorem tf_m : (Value.type "method_descriptor" != .type "function" && Value.type "method_descriptor" != .type "method_descriptor" && Value.type "method_descriptor" != .type "wrapper_descriptor") = false := by kernel_rfl
theorem fa_push : findIn (KS P) (.ref 221) n_push = some (some (.ref 165)) := by kernel_rfl
theorem ft_push : typeIn (KS P) (.ref 165) = some (.type "function") := by kernel_rfl
theorem fa_pop_from : findIn (KS P) (.ref 221) n_pop_from = some (some (.ref 173)) := by kernel_rfl
theorem ft_pop_from : typeIn (KS P) (.ref 173) = some (.type "function") := by kernel_rfl
theorem fa_pop : findIn (KS P) (.ref 221) n_pop = some (some (.ref 181)) := by kernel_rfl
theorem ft_pop : typeIn (KS P) (.ref 181) = some (.type "function") := by kernel_rfl
theorem fa_reset : findIn (KS P) (.ref 221) n_reset = some (some (.ref 203)) := by kernel_rfl
theorem ft_reset : typeIn (KS P) (.ref 203) = some (.type "function") := by kernel_rfl
theorem fa_is_onlyws : findIn (KS P) (.ref 221) n_is_onlyws = some (some (.ref 210)) := by kernel_rfl
theorem ft_is_onlyws : typeIn (KS P) (.ref 210) = some (.type "function") := by kernel_rfl
theorem fa_part_count : findIn (KS P) (.ref 221) n_part_count = some (some (.ref 218)) := by kernel_rfl
theorem ft_part_count : typeIn (KS P) (.ref 218) = some (.type "function") := by kernel_rfl
theorem fa_append : findIn (KS P) (.ref 221) n_append = some (some (.builtin "list.append")) := by kernel_rfl
theorem ft_append : typeIn (KS P) (.builtin "list.append") = some (.type "method_descriptor") := by kernel_rfl
theorem ff_newline : findIn (KS P) (.ref 137) n_newline = some (some (.ref 99)) := by kernel_rfl
theorem ft_newline : typeIn (KS P) (.ref 99) = some (.type "function") := by kernel_rfl
theorem ff_str_u : findIn (KS P) (.ref 137) n_str_u = some (some (.ref 85)) := by kernel_rfl
theorem ft_str_u : typeIn (KS P) (.ref 85) = some (.type "function") := by kernel_rfl
theorem ff_ascii_split_u : findIn (KS P) (.ref 137) n_ascii_split_u = some (some (.ref 127)) := by kernel_rfl
theorem ft_ascii_split_u : typeIn (KS P) (.ref 127) = some (.type "function") := by kernel_rfl
theorem ff_append_chunk_u : findIn (KS P) (.ref 137) n_append_chunk_u = some (some (.ref 134)) := by kernel_rfl
theorem ft_append_chunk_u : typeIn (KS P) (.ref 134) = some (.type "function") := by kernel_rfl
theorem gv_law_machines_u : gval P n_law_machines_u = some (.ref 232) := by kernel_rfl
theorem gv_law_plain_u : gval P n_law_plain_u = some (.ref 239) := by kernel_rfl
theorem gv_law_alias_u : gval P n_law_alias_u = some (.ref 246) := by kernel_rfl
theorem gv_law_bare_u : gval P n_law_bare_u = some (.ref 251) := by kernel_rfl
theorem gv_law_rows_u : gval P n_law_rows_u = some (.ref 258) := by kernel_rfl
theorem gv_law_told_u : gval P n_law_told_u = some (.ref 263) := by kernel_rfl
theorem gv_system_alias : gval P n_system_alias = some (.ref 45) := by kernel_rfl
theorem gv_platform_u : gval P n_platform_u = some (.ref 52) := by kernel_rfl
theorem gv_unknown_as_blank_u : gval P n_unknown_as_blank_u = some (.ref 59) := by kernel_rfl
theorem gv_ValueFormatter_u : gval P n_ValueFormatter_u = some (.ref 137) := by kernel_rfl
theorem gv_Accumulator_u : gval P n_Accumulator_u = some (.ref 221) := by kernel_rfl
theorem gv_twin_re_1_u : gval P n_twin_re_1_u = some (.ref 64) := by kernel_rfl
theorem gv_EMPTYSTRING : gval P n_EMPTYSTRING = some (.str t_empty 350) := by kernel_rfl
theorem gv_str : gval P n_str = some (.type "str") := by kernel_rfl
theorem gv_len : gval P n_len = some (.builtin "len") := by kernel_rfl
theorem gv_sum : gval P n_sum = some (.builtin "sum") := by kernel_rfl
theorem gv_zip : gval P n_zip = some (.type "zip") := by kernel_rfl
theorem gv_tuple : gval P n_tuple = some (.type "tuple") := by kernel_rfl
theorem gv_int : gval P n_int = some (.type "int") := by kernel_rfl
theorem gv_ValueError : gval P n_ValueError = some (.type "ValueError") := by kernel_rfl
theorem gv_filter : gval P n_filter = some (.type "filter") := by kernel_rfl
theorem gv_iter : gval P n_iter = some (.builtin "iter") := by kernel_rfl
theorem fo_52 : (KS P).lookup 52 = some (oF P 52) := by kernel_rfl
theorem fd_52 : (oF P 52).data = .func (fdF P 52) := by kernel_rfl
theorem fo_59 : (KS P).lookup 59 = some (oF P 59) := by kernel_rfl
theorem fd_59 : (oF P 59).data = .func (fdF P 59) := by kernel_rfl
theorem fo_85 : (KS P).lookup 85 = some (oF P 85) := by kernel_rfl
theorem fd_85 : (oF P 85).data = .func (fdF P 85) := by kernel_rfl
theorem fo_99 : (KS P).lookup 99 = some (oF P 99) := by kernel_rfl
theorem fd_99 : (oF P 99).data = .func (fdF P 99) := by kernel_rfl
theorem fo_127 : (KS P).lookup 127 = some (oF P 127) := by kernel_rfl
theorem fd_127 : (oF P 127).data = .func (fdF P 127) := by kernel_rfl
theorem fo_134 : (KS P).lookup 134 = some (oF P 134) := by kernel_rfl
theorem fd_134 : (oF P 134).data = .func (fdF P 134) := by kernel_rfl
theorem fo_165 : (KS P).lookup 165 = some (oF P 165) := by kernel_rfl
theorem fd_165 : (oF P 165).data = .func (fdF P 165) := by kernel_rfl
theorem fo_173 : (KS P).lookup 173 = some (oF P 173) := by kernel_rfl
theorem fd_173 : (oF P 173).data = .func (fdF P 173) := by kernel_rfl
theorem fo_181 : (KS P).lookup 181 = some (oF P 181) := by kernel_rfl
theorem fd_181 : (oF P 181).data = .func (fdF P 181) := by kernel_rfl
theorem fo_203 : (KS P).lookup 203 = some (oF P 203) := by kernel_rfl
theorem fd_203 : (oF P 203).data = .func (fdF P 203) := by kernel_rfl
theorem fo_210 : (KS P).lookup 210 = some (oF P 210) := by kernel_rfl
theorem fd_210 : (oF P 210).data = .func (fdF P 210) := by kernel_rfl
theorem fo_218 : (KS P).lookup 218 = some (oF P 218) := by kernel_rfl
theorem fd_218 : (oF P 218).data = .func (fdF P 218) := by kernel_rfl
theorem fo_232 : (KS P).lookup 232 = some (oF P 232) := by kernel_rfl
theorem fd_232 : (oF P 232).data = .func (fdF P 232) := by kernel_rfl
theorem fo_239 : (KS P).lookup 239 = some (oF P 239) := by kernel_rfl
theorem fd_239 : (oF P 239).data = .func (fdF P 239) := by kernel_rfl
theorem fo_251 : (KS P).lookup 251 = some (oF P 251) := by kernel_rfl
theorem fd_251 : (oF P 251).data = .func (fdF P 251) := by kernel_rfl
theorem fo_258 : (KS P).lookup 258 = some (oF P 258) := by kernel_rfl
theorem fd_258 : (oF P 258).data = .func (fdF P 258) := by kernel_rfl
theorem fo_263 : (KS P).lookup 263 = some (oF P 263) := by kernel_rfl
theorem fd_263 : (oF P 263).data = .func (fdF P 263) := by kernel_rfl
end Mine
end
section
namespace Mine
open PySem PySem.W PySem.W.X PyProof.Rows PySem.Calls

/-- a sequence object of whatever class -/
def SeqAt (h : Heap) (a : Addr) (items : Array Value) : Prop := ∃ o, h.get? a = some o ∧ ∃ n, o.data = .seq items n
theorem SeqAt.at {h h' : Heap} {a : Addr} {items : Array Value} (x : SeqAt h a items) (e : ∀ o, h.get? a = some o → h'.get? a = some o) : SeqAt h' a items := let ⟨o, ho, r⟩ := x; ⟨o, e _ ho, r⟩

section
variable {prog : Program} {w : World} {A : Around} {E : Value → Shared → Prop} {s : Shared}

theorem next_item {it l : Addr} {i : Nat} {items : Array Value} {x : Value} {Q : Option Value → Shared → Prop} (hit : s.heap.IsListIter it l i) (hl : SeqAt s.heap l items) (hx : items[i]? = some x)
    (hQ : ∀ h', h'.IsListIter it l (i + 1) → Heap.SameBut it s.heap h' → Q (some x) { s with heap := h' }) : wpAny (model prog w) A (pyNext (.ref it)) Q E s := by
  refine hG fun zP zK => ?_
  obtain ⟨o, ho, hc, hd⟩ := id hit
  obtain ⟨ol, hol, nl, hdl⟩ := hl
  refine zK ?_
  unfold pyNext
  refine wpAny_bind (wpAny_attempt (wpAny_callSpecial?_slot (name := Str.ofString "__next__") hit.typeIs slot_listiter_next (wpAny_call_entry slot_listiter_next hit.typeIs entry_listiter_next ?_ (args_listiter_next _))))
  show wpAny _ _ (field (.ref it) 0 >>= _) _ _ s
  refine wpAny_bind (wpAny_field ho hd (x := .ref l) rfl ?_)
  show wpAny _ _ (if (Value.ref l == Value.none) = true then _ else _) _ _ s
  rw [if_neg (show ¬ ((Value.ref l == Value.none) = true) from Bool.false_ne_true)]
  show wpAny _ _ (field (.ref it) 1 >>= _) _ _ s
  refine wpAny_bind (wpAny_field ho hd (x := .int i 0) rfl ?_)
  show wpAny _ _ (seqItems? (.ref l) >>= _) _ _ s
  refine wpAny_bind (wpAny_seqItems hol hdl ?_)
  simp only [Int.toNat_natCast, hx]
  refine wpAny_bind (wpAny_setField ho hd (by simp) (wpAny_pure ⟨x, rfl, wpAny_pure (hQ _ ?_ (Heap.SameBut.update ..))⟩))
  exact ⟨_, Heap.get?_update_self _ ho (Obj.isFreed_of_fields (Obj.data_mapFields hd _)), (Obj.cls_mapFields ..).trans hc, by rw [Obj.data_mapFields hd]; simp [rawInt]⟩

theorem next_end {it l : Addr} {i : Nat} {items : Array Value} {Q : Option Value → Shared → Prop} (hh : A.handled = none) (hit : s.heap.IsListIter it l i) (hl : SeqAt s.heap l items) (hx : items[i]? = none)
    (hQ : ∀ h', Heap.ExtBut it s.heap h' → Q none { s with heap := h' }) : wpAny (model prog w) A (pyNext (.ref it)) Q E s := by
  refine hG fun zP zK => ?_
  obtain ⟨o, ho, hc, hd⟩ := id hit
  obtain ⟨ol, hol, nl, hdl⟩ := hl
  refine zK ?_
  unfold pyNext
  refine wpAny_bind (wpAny_attempt (wpAny_callSpecial?_slot (name := Str.ofString "__next__") hit.typeIs slot_listiter_next (wpAny_call_entry slot_listiter_next hit.typeIs entry_listiter_next ?_ (args_listiter_next _))))
  show wpAny _ _ (field (.ref it) 0 >>= _) _ _ s
  refine wpAny_bind (wpAny_field ho hd (x := .ref l) rfl ?_)
  show wpAny _ _ (if (Value.ref l == Value.none) = true then _ else _) _ _ s
  rw [if_neg (show ¬ ((Value.ref l == Value.none) = true) from Bool.false_ne_true)]
  show wpAny _ _ (field (.ref it) 1 >>= _) _ _ s
  refine wpAny_bind (wpAny_field ho hd (x := .int i 0) rfl ?_)
  show wpAny _ _ (seqItems? (.ref l) >>= _) _ _ s
  refine wpAny_bind (wpAny_seqItems hol hdl ?_)
  simp only [Int.toNat_natCast, hx]
  refine wpAny_bind (wpAny_rule (wpAny_bind (wpAny_setField ho hd (by simp) ?_)))
  show wpAny _ _ (newExc (.type "StopIteration") [] >>= _) _ _ _
  refine wpAny_bind ?_
  simp only [newExc, newTuple]
  refine wpAny_bind (wpAny_newObj_type ?_ (by size_fits))
  refine wpAny_bind (m := firstArgMember _ _) (wpAny_of_eq (a := Value.none) (by first | rfl | (simp only [firstArgMember]; rfl)) ?_)
  refine wpAny_newObj_type ?_ (by size_fits)
  simp only [raiseNew]
  refine wpAny_bind (wpAny_handled ?_)
  rw [show A.in1.handled = none from hh]
  refine wpAny_bind (wpAny_pure (wpAny_throw ?_))
  refine wpAny_bind (wpAny_isInstance (T := "StopIteration") (b := true) ⟨_, Heap.get?_push_size _ rfl, rfl⟩ isSubtype_stop ?_)
  exact wpAny_pure (hQ _ (((Heap.SameBut.update ..).extBut.push _).push _))
end

theorem seqTuples {prog : Program} {w : World} {A : Around} (hh : A.handled = none) (I ax : Addr) (hne : ax ≠ I) (items : Array Value) (Ts : Nat → Addr) (vals : Nat → Array Value)
    (hit : ∀ j, j < items.size → items[j]? = some (.ref (Ts j))) (hTI : ∀ j, j < items.size → Ts j ≠ I) :
    WalksU prog w A I (I :: ax :: (List.range items.size).map Ts) [I] items.size (fun j v => j < items.size ∧ v = vals j)
      (fun j h => h.IsListIter I ax j ∧ SeqAt h ax items ∧ ∀ k, k < items.size → h.IsTuple (Ts k) (vals k))
      (fun j T h => (j < items.size ∧ T = Ts j) ∧ h.IsListIter I ax (j + 1) ∧ SeqAt h ax items ∧ ∀ k, k < items.size → h.IsTuple (Ts k) (vals k)) where
  sub := fun b hb => by simp at hb; simp [hb]
  frame := fun _ _ _ st hk => ⟨st.1.at fun o e => hk I (mI 0 rfl) o e, st.2.1.at fun o e => hk ax (mI 1 rfl) o e,
    fun k hk' => (st.2.2 k hk').at fun o e => hk (Ts k) (List.mem_cons_of_mem _ (List.mem_cons_of_mem _ (List.mem_map.mpr ⟨k, List.mem_range.mpr hk', rfl⟩))) o e⟩
  item := fun i s Q E hi st hQ => by
    refine next_item st.1 st.2.1 (x := .ref (Ts i)) (hit i hi) fun h' hit' hs' => ?_
    have tup : ∀ k, k < items.size → h'.IsTuple (Ts k) (vals k) := fun k hk' => (st.2.2 k hk').extBut hs'.extBut (hTI k hk')
    exact hQ (Ts i) (vals i) h' s.toks ⟨hi, rfl⟩ (tup i hi) ⟨⟨hi, rfl⟩, hit', st.2.1.at fun o e => hs'.extBut _ _ hne e, tup⟩ fun b o hb e => hs'.extBut b o (fun h => hb (by simp [h])) e
  go := fun _ _ _ _ _ s Q _ hm hQ => wpAny_letOwnedTupleGo_listiter hm.2.1 (hQ s.heap hm.2 fun _ _ _ e => e)
  apart := fun j T _ hm hmem => by
    rcases List.mem_cons.mp hmem with e | e
    · exact hTI j hm.1.1 (hm.1.2 ▸ e)
    · cases e
  done := fun s Q E st hQ => next_end hh st.1 st.2.1 (by simp) fun h' he' => hQ h' s.toks fun b o hb e => he' b o (fun h => hb (by simp [h])) e
  self := fun _ _ _ _ st hQ => wpAny_pyIter_listiter st.1 hQ

/-- iter of an object of the text's own list class -/
theorem iter_L {c : Cx} {s : Shared} {A : Around} {E : Value → Shared → Prop} {x d : Addr} {ox od : Obj} {Q : Value → Shared → Prop} (I : SInv c s) (J : W.InstAt s.heap x ox 221 (some od))
    (hQ : Q (.ref s.heap.objs.size) { s with heap := s.heap.push { cls := .type "list_iterator", data := .fields #[.ref x, .int 0 0] } }) : wpAny c.M A (pyIter (.ref x)) Q E s := by
  have hi : findIn (KS c.w.params) (.ref 221) "__iter__" = some (some (.builtin "list.__iter__")) := by kernel_rfl
  unfold pyIter specialOf
  refine wpAny_bind (wpAny_bind (J.type.here ((looks_findIn I.kin hi).here ?_)))
  show wpAny c.M A (callSpecialIfBoundUnlessNone? (.ref x) "__iter__" _ >>= _) Q E s
  refine wpAny_bind ?_
  have hb : bindSpecial (.builtin "list.__iter__") (.ref x) = pure (.builtin "list.__iter__", [.ref x]) := by kernel_rfl
  simp only [callSpecialIfBoundUnlessNone?, bindSpecialIfBound?, specialOf]
  refine wpAny_holding (wpAny_bind (wpAny_bind (wpAny_bind (J.type.here ((looks_findIn I.kin hi).here ?_)))))
  simp only [hb]
  refine wpAny_bind (wpAny_askSetting (wpAny_ite ?_))
  have hc : wpAny c.M A (call (.builtin "list.__iter__") [.ref x]) (fun v s' => wpAny c.M A (do
      match ← specialOf v "__next__" with
      | none => do rule "iter.non-iterator"; raiseError "TypeError" s!"iter() returned non-iterator of type '{← PySem.typeNameOf v}'"
      | some _ => pure v) Q E s') E s := by
    refine wpAny_call ?_
    refine call_L (n := "__iter__") (b := Builtin.«list.__iter__») I.kin J (fa_mro _) (.inl (by kernel_rfl)) (by kernel_rfl) (by kernel_rfl) (entryFor_of_tree (by kernel_rfl)) (by unfold argsOk; kernel_rfl) ?_
    show wpAny _ _ (do ret (← newFields "list_iterator" [.ref x, rawInt 0])) _ _ s
    refine wpAny_bind (wpAny_newObj_type (wpAny_pure ?_))
    exact wpAny_bind (wpAny_specialOf (T := "list_iterator") ⟨_, Heap.get?_push_size _ rfl, rfl⟩ slot_listiter_next.lookup (wpAny_pure hQ))
  have fin : ∀ (refuse : Sem Value), wpAny c.M A (if (Value.builtin "list.__iter__" == Value.none) = true then (refuse >>= fun v => pure (some v)) else (call (.builtin "list.__iter__") [.ref x] >>= fun v => pure (some v))) (fun a s' => wpAny c.M A (match a with
        | some it => (do
          match ← specialOf it "__next__" with
          | none => do rule "iter.non-iterator"; raiseError "TypeError" s!"iter() returned non-iterator of type '{← PySem.typeNameOf it}'"
          | some _ => pure it)
        | none => (do
          match ← bindSpecialIfBound? (.ref x) "__getitem__" with
          | none => do rule "iter.not-iterable"; raiseError "TypeError" s!"'{← PySem.typeNameOf (.ref x)}' object is not iterable"
          | some _ => do rule "iter.getitem-fallback"; newFields "iterator" [.ref x, ← mkInt 0])) Q E s') E s := by
    intro refuse
    simp only [builtin_beq_none, Bool.false_eq_true, if_false]
    exact wpAny_bind (wpAny_mono hc (fun v s' h' => wpAny_pure h') fun _ _ h' => h')
  split
  · exact wpAny_bind (wpAny_pure (wpAny_pure (fin _)))
  · exact wpAny_tryCatch (wpAny_bind (wpAny_pure (wpAny_pure (fin _))))
end Mine
end
section
namespace Mine
open PySem PySem.W PySem.W.X PyProof.Rows PySem.Calls

theorem TabOk.ext {h h' : Heap} {c P a : Addr} (x : TabOk h c P) (k : Heap.ExtBut a h h') (hc : c ≠ a) (hP : P ≠ a) : TabOk h' c P :=
  x.move (fun o e => k c o hc e) (fun o e => k P o hP e)

theorem gen_code {c : Cx} {A : Around} {E : Value → Shared → Prop} {s : Shared} {env : Env} {pos : Pos} {q : Str} {scope : Scope} {cc P : Addr} {Q : Value → Shared → Prop} (I : SInv c s)
    (hsel : (cc = 51 ∧ P = 47) ∨ (cc = 187 ∧ P = 183) ∨ (cc = 194 ∧ P = 190)) (hcode : env.code = .ref cc)
    (h : ∀ code s', SInv c s' → (∀ b o, b ≠ P → s.heap.get? b = some o → s'.heap.get? b = some o) → s.heap.objs.size ≤ s'.heap.objs.size → s'.gens = s.gens → Q code s') : wpAny c.M A (genexprCode env pos q scope) Q E s := by
  have T : TabOk s.heap cc P := by rcases hsel with ⟨rfl, rfl⟩ | ⟨rfl, rfl⟩ | ⟨rfl, rfl⟩ <;> first | exact I.t47 | exact I.t183 | exact I.t190
  have T0 : c.hB.TableAt cc P #[] := by rcases hsel with ⟨rfl, rfl⟩ | ⟨rfl, rfl⟩ | ⟨rfl, rfl⟩ <;> first | exact c.t47 | exact c.t183 | exact c.t190
  have hPt : P ∈ tabs := by rcases hsel with ⟨rfl, rfl⟩ | ⟨rfl, rfl⟩ | ⟨rfl, rfl⟩ <;> decide
  obtain ⟨ps, hI, hT⟩ := T
  cases hf : codeAmong pos ps.toList with
  | some v =>
    refine hG fun zP zK => ?_
    obtain ⟨o, vs, file, tf, flags, tg, inF, text, tt, op, ho, hd, h11, h2, h7, h9, h10, hop, hpd, htr, hne⟩ := id hI
    refine zK ?_
    unfold genexprCode codeAt
    rw [hcode, if_neg (show ¬ ((Value.ref cc == Value.none) = true) from Bool.false_ne_true)]
    refine wpAny_bind (wpAny_fieldsOf ho hd ?_)
    rw [h11]
    refine wpAny_bind (wpAny_fieldsOf hop hpd ?_)
    rw [hf]
    exact wpAny_pure (h v s I (fun _ _ _ e => e) (Nat.le_refl _) rfl)
  | none =>
    refine wpAny_genexprCodeX hcode hI hT hf fun c' h' tk hx h1 h2 hI' _ hT' _ => ?_
    have hz : s.heap.objs.size ≤ h'.objs.size := Nat.le_trans h1 (Nat.le_of_lt h2)
    have old : OldK c.hB h' := I.old.step_table T0 hT hT' hx (by intro e; rw [e] at hPt; revert hPt; decide)
    refine h (.ref c') { s with heap := h', toks := tk } ⟨fun b o e => hx b o (fun e' => KS_no e (e' ▸ hPt)) (I.kin b o e), old, Nat.le_trans I.size hz, ?_, ?_, ?_, I.bare, I.os⟩ (fun b o hb e => hx b o hb e) hz rfl
    · rcases hsel with ⟨rfl, rfl⟩ | ⟨rfl, rfl⟩ | ⟨rfl, rfl⟩
      · exact ⟨_, hI', hT'⟩
      · exact I.t47.ext hx (by decide) (by decide)
      · exact I.t47.ext hx (by decide) (by decide)
    · rcases hsel with ⟨rfl, rfl⟩ | ⟨rfl, rfl⟩ | ⟨rfl, rfl⟩
      · exact I.t183.ext hx (by decide) (by decide)
      · exact ⟨_, hI', hT'⟩
      · exact I.t183.ext hx (by decide) (by decide)
    · rcases hsel with ⟨rfl, rfl⟩ | ⟨rfl, rfl⟩ | ⟨rfl, rfl⟩
      · exact I.t190.ext hx (by decide) (by decide)
      · exact I.t190.ext hx (by decide) (by decide)
      · exact ⟨_, hI', hT'⟩

theorem builtinsFor_K {c : Cx} {A : Around} {E : Value → Shared → Prop} {s : Shared} {bi : Addr} {Q : Addr → Shared → Prop} (I : SInv c s) (h : Q 0 s) : wpAny c.M A (builtinsFor 3 bi) Q E s := by
  have k3 : (KS c.w.params).lookup 3 = some (oF c.w.params 3) := by kernel_rfl
  have k4 : (KS c.w.params).lookup 4 = some (oF c.w.params 4) := by kernel_rfl
  have e3 : lookIn "__builtins__" (oF c.w.params 3) = some (some (.ref 4)) := by kernel_rfl
  have e4 : oF c.w.params 4 = ⟨.type "module", some 0, .plain, #[]⟩ := by kernel_rfl
  unfold builtinsFor
  refine wpAny_bind (nsGet_K I k3 e3 ?_)
  dsimp only
  rw [if_neg (by decide)]
  refine wpAny_bind (wpAny_load (inK I k4) ?_)
  rw [e4]
  dsimp only
  rw [if_pos (by decide)]
  exact wpAny_pure h
end Mine
end
section
namespace Mine
open PySem PySem.W PySem.W.X PyProof.Rows PySem.Calls

/-- sum(it, 0) over a walk of ints -/
theorem call_sum0 {prog : Program} {w : World} {A : Around} {E : Value → Shared → Prop} {s : Shared} {x : Value} {t0 : Tok} {Q : Value → Shared → Prop}
    (h : wpAny (model prog w) A.in1 (pyIter x) (fun it s₂ => ∃ I fp wr G n P St val, it = .ref I ∧ WalksS prog w A.in1 I fp wr G n P St ∧ St 0 s₂ ∧ (∀ b ∈ fp, b < s₂.heap.objs.size) ∧
      (∀ i v, P i v → ∃ t, v = .int (val i) t) ∧
      ∀ s' t', Moved wr G s₂ s' → Q (.int (preSum val n) t') s') E s) :
    wpAny (model prog w) A (call (.builtin "sum") [x, .int 0 t0]) Q E s := by
  refine call_function_tree F.kind_sum F.plain_sum F.entry_sum (by unfold argsOk; kernel_rfl) ?_
  unfold Builtin.«sum»
  simp only [List.length_cons, List.length_nil]
  rw [if_neg (by decide)]
  refine wpAny_bind (wpAny_of_eq (show Builtin.Builtins.bindParams "sum" ["start"] 0 ⟨[.int 0 t0], []⟩ = pure [some (.int 0 t0)] from by kernel_rfl) ?_)
  refine wpAny_bind (wpAny_mono h (fun it s₂ h₂ => ?_) fun _ _ e => e)
  refine hG fun zP zK => ?_
  obtain ⟨I, fp, wr, G, n, P, St, val, rfl, W, hst, hfp, hval, hQ⟩ := h₂
  refine zK ?_
  dsimp only
  rw [if_pos (by decide)]
  refine wpAny_bind (wpAny_rule (wpAny_bind (wpAny_mkInt (wpAny_bind (wpAny_pure ?_)))))
  simp only [List.forIn_cons, List.forIn_nil]
  refine wpAny_bind (wpAny_bind (wpAny_bind (wpAny_isInstance (T := "int") (b := false) (typeIs_int _ _ _) PySem.sub_int_str ?_)))
  simp only [Bool.false_eq_true, if_false]
  refine wpAny_pure (wpAny_bind (wpAny_bind (wpAny_isInstance (T := "int") (b := false) (typeIs_int _ _ _) PySem.sub_int_bytes ?_)))
  simp only [Bool.false_eq_true, if_false]
  refine wpAny_pure (wpAny_bind (wpAny_bind (wpAny_isInstance (T := "int") (b := false) (typeIs_int _ _ _) PySem.sub_int_bytearray ?_)))
  simp only [Bool.false_eq_true, if_false]
  refine wpAny_pure (wpAny_pure ?_)
  refine wpAny_bind (wpAny_newObj_type ?_)
  have hSf : s₂.heap.objs.size ∉ fp := fun hm => Nat.lt_irrefl _ (hfp _ hm)
  refine wpAny_pure ⟨plainId_quiet F.plain_sum_loop _, codeAny_sum_loopAnyS W val hval s₂.heap.objs.size hSf n 0 _ s₂.toks 0 0 (.inl rfl) rfl (Nat.zero_le _)
    (W.frame 0 s₂ _ _ hst (by first | exact Nat.le_refl _ | exact Nat.le_succ _ | omega) fun b _ o e => Heap.get?_push_of_some _ e) (Heap.get?_push_size _ rfl) fun s' t' hm => ?_⟩
  exact hQ s' t' (hm.drop_new (by first | exact Nat.le_refl _ | exact Nat.le_succ _ | omega))
end Mine
end
section
namespace Mine
open PySem PySem.W PySem.W.X PyProof.Rows PySem.Calls

noncomputable abbrev accO (d : Addr) (items : Array Value) (ep : Nat) : Obj := ⟨.ref 221, some d, .seq items ep, #[]⟩

/-- the parts that an accumulator's items stand for -/
noncomputable def PartsAt (h : Heap) (items : Array Value) (ps : List (Str × Str)) : Prop :=
  items.size = ps.length ∧ ∀ (j : Nat) (p : Str × Str), ps[j]? = some p → ∃ (T : Addr) (t t' : Tok), items[j]? = some (.ref T) ∧ h.get? T = some (tupO [.str p.1 t, .str p.2 t']) ∧ 270 ≤ T

noncomputable def tot (ps : List (Str × Str)) : Int := (ps.map fun p => (p.1.length : Int) + p.2.length).sum

section
variable {c : Cx} {A : Around} {E : Value → Shared → Prop} {s : Shared} {env : Env}
theorem nsGet_X {a : Addr} {x : Str} {r : Option Value} {Q : Option Value → Shared → Prop} (X : (KS c.w.params).In s.heap) (ha : (KS c.w.params).lookup a = some (oF c.w.params a)) (e : lookIn x (oF c.w.params a) = some r) (h : Q r s) :
    wpAny c.M A (nsGet a x) Q E s := by
  unfold nsGet
  refine wpAny_bind (wpAny_loadPart (X _ _ ha) ?_)
  rw [nsLook_of e]; exact wpAny_pure h
theorem glob_X {x : Str} {pos : Pos} {v : Value} {Q : Value → Shared → Prop} (X : (KS c.w.params).In s.heap) (hg : gval c.w.params x = some v) (hk : env.scope.kind = .function) (h1 : env.globals = 3) (h2 : env.builtins = 0)
    (hl : env.kindOf x = some .globalImplicit) (hd : (x == ("__debug__" : Str)) = false) (h : Q v s) : wpAny c.M A (eval (.Name x pos) env) Q E s := by
  refine Calls.Name_function_global hk hl ?_ hd
  unfold loadGlobal
  rw [h1, h2]
  have k3 : (KS c.w.params).lookup 3 = some (oF c.w.params 3) := by kernel_rfl
  have k0 : (KS c.w.params).lookup 0 = some (oF c.w.params 0) := by kernel_rfl
  unfold gval at hg
  split at hg
  · rename_i v' e
    cases hg
    exact wpAny_bind (nsGet_X X k3 e (wpAny_pure h))
  · rename_i e
    split at hg
    · rename_i v' e'
      cases hg
      exact wpAny_bind (nsGet_X X k3 e (wpAny_bind (nsGet_X X k0 e' (wpAny_pure h))))
    · cases hg
  · cases hg
end

noncomputable def Tof (items : Array Value) (j : Nat) : Addr := match items[j]? with | some (.ref T) => T | _ => 0
noncomputable def valsOf (h : Heap) (items : Array Value) (j : Nat) : Array Value := match h.get? (Tof items j) with | some ⟨_, _, .seq vs _, _⟩ => vs | _ => #[]
noncomputable def lenAt (ps : List (Str × Str)) (i : Nat) : Int := match ps[i]? with | some p => (p.1.length : Int) + p.2.length | none => 0

theorem tupled {h : Heap} {items : Array Value} {ps : List (Str × Str)} (hP : PartsAt h items ps) {j : Nat} (hj : j < items.size) :
    items[j]? = some (.ref (Tof items j)) ∧ h.get? (Tof items j) = some ⟨.type "tuple", none, .seq (valsOf h items j) 0, #[]⟩ ∧ 270 ≤ Tof items j ∧ ∃ p t t', ps[j]? = some p ∧ valsOf h items j = #[.str p.1 t, .str p.2 t'] := by
  obtain ⟨hz, hp⟩ := hP
  have hj' : j < ps.length := hz ▸ hj
  refine hG fun zP zK => ?_
  obtain ⟨T, t, t', e1, e2, e3⟩ := hp j ps[j] (List.getElem?_eq_getElem hj')
  refine zK ?_
  have hT : Tof items j = T := by unfold Tof; rw [e1]
  have hv : valsOf h items j = #[.str ps[j].1 t, .str ps[j].2 t'] := by unfold valsOf; rw [hT, e2]
  rw [hT, hv]
  exact ⟨e1, e2, e3, ps[j], t, t', List.getElem?_eq_getElem hj', rfl⟩

theorem passing_all (n : Nat) : passing (fun _ => true) n 0 = List.range n := by
  unfold passing
  rw [List.drop_zero, List.filter_eq_self.mpr (fun _ _ => rfl)]

/-- a generator expression over the parts of self -/
theorem genParts {c : Cx} {k : Nat} {A : Around} {E : Value → Shared → Prop} {s : Shared} {he : Heap} {L : Addr} {m : List (Str × Value)} {mu : List (Addr × Obj)} {f x d cc P : Addr} {items : Array Value} {ep : Nat} {od : Obj} {ps : List (Str × Str)}
    {elt : Expr} {xa xb : Str} {pa pb pt np pos : Pos} {kt : Nat} {scope : Scope} {Q : Value → Shared → Prop} (F : Nat → Value → Prop)
    (B : Bod c he L m mu s) (R : Room k A) (hsel : (cc = 51 ∧ P = 47) ∨ (cc = 187 ∧ P = 183) ∨ (cc = 194 ∧ P = 190)) (hcode : (envF c.w.params f L).code = .ref cc) (hgl : (envF c.w.params f L).globals = 3)
    (hsl : m.lookup n_self = some (.ref x)) (hkd : (envF c.w.params f L).scope.kind = .function) (hks : (envF c.w.params f L).kindOf n_self = some .local)
    (hx : s.heap.get? x = some (accO d items ep)) (hd : s.heap.get? d = some od) (hP : PartsAt s.heap items ps)
    (hco : scope.isCoroutine = false) (hclos : closureFor scope (envF c.w.params f L) = pure []) (hcell : ∀ y ∈ scope.names, y.2 ≠ .cell) (h0 : scope.names.lookup (".0" : Str) = some NameKind.local)
    (hxa : scope.names.lookup xa = some .local) (hxb : scope.names.lookup xb = some .local) (hab : xa ≠ xb) (hkind : scope.kind = .function)
    (helt : ∀ (A' : Around) (E' : Value → Shared → Prop) (i : Nat) (p : Str × Str) (t t' : Tok) (C : Addr) (code : Value) (s₂ : Shared) (m₂ : Str → Option Value), A'.handled = none → ps[i]? = some p → s₂.heap.Ns C m₂ → m₂ xa = some (.str p.1 t) → m₂ xb = some (.str p.2 t') →
      (KS c.w.params).In s₂.heap → wpAny c.M A' (eval elt (genEnv scope [] C code 0 (envF c.w.params f L))) (fun y s₃ => F i y ∧ Keeps s₂ s₃) E' s₂)
    (h : ∀ a s5 fp wr G St, Ev c s s5 → WalksS prg c.w A.in4 a fp wr G ps.length F St → St 0 s5 → (∀ b ∈ fp, b < s5.heap.objs.size) → (∀ b ∈ wr, s.heap.objs.size ≤ b) → (∀ x y, G x y → AllBare x → AllBare y) →
      s5.heap.objs.size = a + 1 → a ∉ wr → (∃ o, s5.heap.get? a = some o) → (∀ i s', St i s' → s'.TypeIs (.ref a) "generator") → a ∈ fp → Q (.ref a) s5) :
    wpAny c.M A (eval (.GeneratorExp elt [⟨.Tuple [.Name xa pa, .Name xb pb] kt pt, .Name n_self np, [], 0⟩] scope pos) (envF c.w.params f L)) Q E s := by
  refine wpAny_GeneratorExp_walksQT (cl := []) R.handled hco hclos hcell h0 hxa hxb hab hkind R.lim ?_ (by intro x; rfl)
  refine b_name B (envF_locals _ _ _) hsl hkd hks (by kernel_rfl) ?_
  have J : W.InstAt s.heap x (accO d items ep) 221 (some od) := ⟨hx, rfl, rfl, hd⟩
  refine iter_L (d := d) B.inv J ?_
  have I1 : SInv c { s with heap := s.heap.push { cls := .type "list_iterator", data := .fields #[.ref x, .int 0 0] } } := B.inv.keeps (fun b o e => Heap.get?_push_of_some _ e) (by rw [Heap.size_push]; lia)
  refine ⟨noLimit_of I1, ?_⟩
  refine gen_code I1 hsel hcode fun code s3 I3 k3 z3 g3 => ?_
  rw [hgl]
  refine builtinsFor_K I3 ?_
  have hPt : P ∈ tabs := by rcases hsel with ⟨rfl, rfl⟩ | ⟨rfl, rfl⟩ | ⟨rfl, rfl⟩ <;> decide
  have hxlt : x < s.heap.objs.size := Heap.lt_size hx
  have nT : ∀ b, 270 ≤ b → b ≠ P := fun b hb e => Bod.notTab b hb (e ▸ hPt)
  have z3' : s.heap.objs.size + 1 ≤ s3.heap.objs.size := by rw [← Heap.size_push]; exact z3
  have xT : x ≠ P := fun e => by
    have t3 : TabOk s.heap cc P := by rcases hsel with ⟨rfl, rfl⟩ | ⟨rfl, rfl⟩ | ⟨rfl, rfl⟩ <;> first | exact B.inv.t47 | exact B.inv.t183 | exact B.inv.t190
    obtain ⟨ps', _, _, q⟩ := t3
    rw [← e, hx] at q; cases q
  have tup : ∀ j, j < items.size → s3.heap.IsTuple (Tof items j) (valsOf s.heap items j) := fun j hj => by
    obtain ⟨_, e2, e3, _⟩ := tupled hP hj
    exact ⟨_, k3 _ _ (nT _ e3) (Heap.get?_push_of_some _ e2), rfl, _, rfl⟩
  have hgI : s3.heap.get? s.heap.objs.size = some { cls := .type "list_iterator", data := .fields #[.ref x, .int 0 0] } := k3 _ _ (nT _ B.inv.size) (Heap.get?_push_size _ rfl)
  have hPz : (passing (fun _ => true) items.size 0).length = ps.length := by rw [passing_all, List.length_range, hP.1]
  refine ⟨s.heap.objs.size, _, _, items.size, _, _, _, fun _ => true, F, rfl, fun A' hA => seqTuples hA s.heap.objs.size x (Nat.ne_of_lt hxlt) items (Tof items) (valsOf s.heap items) (fun j hj => (tupled hP hj).1) (fun j hj => ?_), ?_, ?_, ?_, noLimit_of I3, ?_, ?_, ?_⟩
  · exact Nat.ne_of_lt (Heap.lt_size (tupled hP hj).2.1)
  · intro i vals hv
    refine hG fun zP zK => ?_
    obtain ⟨_, _, _, p, t, t', _, e⟩ := tupled hP hv.1
    refine zK ?_
    exact ⟨_, _, hv.2.trans e⟩
  · exact ⟨⟨_, hgI, rfl, rfl⟩, ⟨_, k3 _ _ xT (Heap.get?_push_of_some _ hx), _, rfl⟩, tup⟩
  · intro b hb
    rcases List.mem_cons.mp hb with rfl | hb
    · exact Heap.lt_size hgI
    · rcases List.mem_cons.mp hb with rfl | hb
      · exact Nat.lt_of_lt_of_le (Nat.lt_succ_of_lt hxlt) z3'
      · obtain ⟨j, hj, rfl⟩ := List.mem_map.mp hb
        exact Nat.lt_of_lt_of_le (Nat.lt_succ_of_lt (Heap.lt_size (tupled hP (List.mem_range.mp hj)).2.1)) z3'
  · intro hm
    rw [List.mem_singleton] at hm
    exact absurd (hm ▸ B.inv.size) (by decide)
  · intro href hh
    refine ⟨?_, ?_⟩
    · intro A' E' i va vb s₂ m₂ hA hv hn ha hb hk
      exact wpAny_pure ⟨rfl, s₂.heap, s₂.toks, rfl, fun _ _ e => e⟩
    · intro A' E' i va vb s₂ m₂ hA hv hp hn ha hb hk
      refine hG fun zP zK => ?_
      obtain ⟨_, _, _, p, t, t', e1, e⟩ := tupled hP hv.1
      refine zK ?_
      have e' := hv.2.trans e
      have ea : va = .str p.1 t := by have := congrArg (fun (z : Array Value) => z[0]?) e'; simpa using this
      have eb : vb = .str p.2 t' := by have := congrArg (fun (z : Array Value) => z[1]?) e'; simpa using this
      subst ea eb
      refine helt A' E' i p t t' _ code s₂ m₂ hA e1 hn ha hb ?_
      intro b o q
      have hlt : b < s3.heap.objs.size := Nat.lt_of_lt_of_le (KS_lt q) I3.size
      refine hk b (List.mem_range.mpr hlt) (fun hm => ?_) o (hh b o (I3.kin b o q))
      rw [List.mem_singleton.mp hm] at q
      exact absurd (KS_lt q) (Nat.not_lt.mpr B.inv.size)
  · intro a h5 tk gs hgs ha5 hz5 hk5 W hat
    rw [hPz] at W
    have hlt : s.heap.objs.size < s3.heap.objs.size := z3'
    have I5 : SInv c { s3 with gens := s3.gens.push gs, toks := tk, heap := h5 } := I3.low (fun b o _ e => hk5 b o e) (by show s3.heap.objs.size ≤ h5.objs.size; rw [hz5]; lia) (I3.bare.push hgs) rfl
    have hga : ∃ o, h5.get? a = some o := by obtain ⟨⟨o, _, _, e, _⟩, _⟩ := hat; exact ⟨o, e⟩
    refine h a _ _ _ _ _ ⟨I5, fun b o e hb => hk5 b o (k3 b o (fun q => hb (q ▸ hPt)) (Heap.get?_push_of_some _ e)), ?_⟩ ⟨W.sub, W.grefl, W.gtrans, W.frame, fun i s' Q' E' hi st hq => W.item i s' Q' E' hi st fun v s'' hv => hq v s'' ?_, W.done, W.self⟩ hat ?_ ?_ ?_ hz5 ?_ hga (fun i s' st => st.1.typeIs) List.mem_cons_self
    · show s.heap.objs.size ≤ h5.objs.size
      rw [hz5]; lia
    · obtain ⟨j, hj, hF⟩ := hv
      rw [passing_all] at hj
      have : j = i := by
        have := List.getElem?_eq_some_iff.mp hj
        obtain ⟨q, e⟩ := this
        rw [List.getElem_range] at e; exact e.symm
      subst this; exact hF
    · intro b hb
      show b < h5.objs.size
      rw [hz5]
      rcases List.mem_cons.mp hb with rfl | hb
      · exact Nat.lt_succ_self _
      · rcases List.mem_cons.mp hb with rfl | hb
        · exact Nat.lt_succ_of_lt ha5
        · exact Nat.lt_succ_of_lt (Nat.lt_trans (List.mem_range.mp hb) ha5)
    · intro b hb
      rcases List.mem_cons.mp hb with rfl | hb
      · exact Nat.le_of_lt hlt
      · rw [List.mem_singleton.mp hb]; exact Nat.le_refl _
    · intro x y hxy hb
      exact hb.moved hxy
    · intro hm
      rcases List.mem_cons.mp hm with e | hm
      · exact Nat.lt_irrefl _ (e ▸ ha5)
      · have e := List.mem_singleton.mp hm
        exact Nat.lt_irrefl _ (Nat.lt_trans (e ▸ ha5) hlt)
end Mine
end
section
namespace Mine
open PySem PySem.W PySem.W.X PyProof.Rows PySem.Calls

/-- an attribute read, its base no call -/
theorem e_attr {prog : Program} {w : World} {A : Around} {E : Value → Shared → Prop} {s : Shared} {env : Env} {value : Expr} {attr : Str} {pos : Pos} {Q : Value → Shared → Prop}
    (h : wpAny (model prog w) A (eval value env) (fun o s₁ => wpAny (model prog w) A (getAttr o attr true) Q E s₁) E s) (hb : plainBase value = true := by rfl) :
    wpAny (model prog w) A (eval (.Attribute value attr pos) env) Q E s := by
  rw [arm_eval_Attribute, base_of hb]
  exact wpAny_bind (wpAny_mono h (fun o s₁ h₁ => wpAny_bind (wpAny_standAt (wpAny_bind (wpAny_holding (wpAny_mono h₁ (fun r s₂ h₂ => wpAny_bind (wpAny_letTemporaryGo (wpAny_pure h₂))) fun _ _ y => y))))) fun _ _ y => y)

/-- what is left behind a walked generator -/
theorem genEnd {c : Cx} {s s1 s5 s6 : Shared} {he : Heap} {L : Addr} {m : List (Str × Value)} {mu : List (Addr × Obj)} {a : Addr} {wr : List Addr} {G : Array GenState → Array GenState → Prop}
    (I : SInv c s) (B : Bod c he L m mu s1) (eL : L = s.heap.objs.size) (kp : Kept s.heap s1.heap) (Ev5 : Ev c s1 s5) (hwr : ∀ b ∈ wr, s1.heap.objs.size ≤ b) (hG : ∀ x y, G x y → AllBare x → AllBare y)
    (hz5 : s5.heap.objs.size = a + 1) (haw : a ∉ wr) (hga : ∃ o, s5.heap.get? a = some o) (hmh : ∀ b o, b ∉ wr → s5.heap.get? b = some o → s6.heap.get? b = some o) (hmg : G s5.gens s6.gens) (hmo : s6.os = s5.os) : Ev c s s6 := by
  have z1 : s.heap.objs.size ≤ s1.heap.objs.size := Nat.le_of_lt (eL ▸ B.ns.lt)
  have z6 : s5.heap.objs.size ≤ s6.heap.objs.size := by
    obtain ⟨o, ho⟩ := hga
    rw [hz5]
    exact Heap.lt_size (hmh a o haw ho)
  have I6 : SInv c s6 := Ev5.inv.low (fun b o hb e => hmh b o (fun q => absurd (Nat.le_trans B.inv.size (hwr b q)) (Nat.not_le.mpr hb)) e) z6 (hG _ _ hmg Ev5.inv.bare) hmo
  exact ⟨I6, fun b o e hb => hmh b o (fun q => absurd (Nat.lt_of_lt_of_le (Heap.lt_size e) z1) (Nat.not_lt.mpr (hwr b q))) (Ev5.keep b o (kp b o e) hb), Nat.le_trans z1 (Nat.le_trans Ev5.size z6)⟩

theorem preSum_lenAt (ps : List (Str × Str)) : preSum (lenAt ps) ps.length = tot ps := by
  have e : lenAt ps = fun i => (ps.map fun p => (p.1.length : Int) + p.2.length).getD i 0 := by
    funext i
    unfold lenAt
    rw [List.getD_eq_getElem?_getD, List.getElem?_map]
    cases ps[i]? <;> rfl
  rw [e, preSum_getD, List.take_of_length_le (by simp)]
  rfl

theorem len_spec {c : Cx} {k : Nat} {A : Around} {s : Shared} {x d : Addr} {items : Array Value} {ep : Nat} {od : Obj} {ps : List (Str × Str)} {t0 : Tok} {Q : Value → Shared → Prop} {E : Value → Shared → Prop}
    (I : SInv c s) (R : Room (k + 1) A) (hx : s.heap.get? x = some (accO d items ep)) (hd : s.heap.get? d = some od) (hx2 : 270 ≤ x) (hd2 : 270 ≤ d) (hP : PartsAt s.heap items ps)
    (hod : findObj (KS c.w.params) 221 (some od) n_initial_size_u = some (.value (.int 0 t0))) (hz : ∀ p ∈ ps, p.1.length ≤ 1000000 ∧ p.2.length ≤ 1000000)
    (h : ∀ t s', Ev c s s' → Q (.int (tot ps) t) s') : wpAny c.M A (call (.ref 188) [.ref x]) Q E s := by
  refine enterL [(n_self, .ref x)] [] I R (by walk_at "fn") ?_
  intro L s1 eL B kp R'
  have hP1 : PartsAt s1.heap items ps := ⟨hP.1, fun j p hj => let ⟨T, t, t', a, b, e⟩ := hP.2 j p hj; ⟨T, t, t', a, kp _ _ b, e⟩⟩
  refine sK ?_
  refine wpAny_Return_some ?_
  refine c_name ?_
  refine b_glob B (gv_sum _) (by kernel_rfl) (by kernel_rfl) (by kernel_rfl) (by kernel_rfl) (by kernel_rfl) ?_
  refine cw_builtin ?_
  refine a_cons ?_
  refine genParts (fun i y => ∃ t, y = .int (lenAt ps i) t) B R' (.inr (.inl ⟨rfl, rfl⟩)) (by kernel_rfl) (by kernel_rfl) rfl (by kernel_rfl) (by kernel_rfl) (kp _ _ hx) (kp _ _ hd) hP1 rfl (by kernel_rfl) (by decide) (by decide) (by decide) (by decide) (by decide) rfl ?_ ?_
  · intro A' E' i p t t' C code s₂ m₂ hA hp hn ha hb X
    have hzp := hz p (List.mem_of_getElem? hp)
    refine wpAny_BinOp ?_
    refine c_name ?_
    refine glob_X X (gv_len _) (by rfl) (by kernel_rfl) (by rfl) (by kernel_rfl) (by kernel_rfl) ?_
    refine cw_builtin ?_
    refine a_cons ?_
    refine wpAny_Name (wpAny_loadName_local (m := m₂) (by rfl) (by kernel_rfl) hn ha ?_) (by kernel_rfl)
    refine a_nil ?_
    refine P.len_str (by lia) ?_
    refine c_name ?_
    refine glob_X X (gv_len _) (by rfl) (by kernel_rfl) (by rfl) (by kernel_rfl) (by kernel_rfl) ?_
    refine cw_builtin ?_
    refine a_cons ?_
    refine wpAny_Name (wpAny_loadName_local (m := m₂) (by rfl) (by kernel_rfl) hn hb ?_) (by kernel_rfl)
    refine a_nil ?_
    refine P.len_str (by lia) ?_
    refine PyProof.Rows.add_int ?_
    have e9 : lenAt ps i = (p.1.length : Int) + p.2.length := by unfold lenAt; rw [hp]
    rw [e9]
    exact ⟨⟨_, rfl⟩, s₂.heap, _, rfl, fun _ _ e => e⟩
  · intro a s5 fp wr G St Ev5 Wk hst hfp hwr hG hz5 haw hga _ _
    refine a_cons ?_
    refine e_attr ?_
    have B5 := B.after Ev5
    refine b_name B5 (envF_locals _ _ _) rfl (by kernel_rfl) (by kernel_rfl) (by kernel_rfl) ?_
    have J : W.InstAt s5.heap x (accO d items ep) 221 (some od) := ⟨Ev5.keep _ _ (kp _ _ hx) (Bod.notTab x hx2), rfl, rfl, Ev5.keep _ _ (kp _ _ hd) (Bod.notTab d hd2)⟩
    refine get_L (b := Builtin.«object.__getattribute__») B5.inv.kin J (fa_mro _) (fa_ga _) (fa_gk _) hod (by rfl) ?_
    refine a_nil ?_
    refine call_sum0 ?_
    have W1 := Wk.in4_1
    refine W1.self 0 _ _ _ (W1.frame 0 s5 s5.heap (s5.toks + 1) hst (Nat.le_succ _) (fun _ _ _ e => e)) ?_
    refine ⟨a, fp, wr, G, ps.length, _, St, lenAt ps, rfl, W1, W1.frame 0 s5 s5.heap (s5.toks + 1) hst (Nat.le_succ _) (fun _ _ _ e => e), hfp, fun i v hv => hv, ?_⟩
    intro s6 t6 hm
    rw [preSum_lenAt]
    exact h t6 s6 (genEnd I B eL kp Ev5 hwr hG hz5 haw hga hm.heap hm.gens hm.os)
end Mine
end
section
namespace Mine
open PySem PySem.W PySem.W.X PyProof.Rows PySem.Calls
theorem sl_join : Slot "str" n_join "str.join" := (by kernel_rfl : Str.ofString "join" = n_join) ▸ F.slot_str_join
theorem sl_split : Slot "str" n_split "str.split" := (by kernel_rfl : Str.ofString "split" = n_split) ▸ F.slot_str_split
theorem sl_replace : Slot "str" n_replace "str.replace" := (by kernel_rfl : Str.ofString "replace" = n_replace) ▸ F.slot_str_replace
theorem sl_strip : Slot "str" n_strip "str.strip" := (by kernel_rfl : Str.ofString "strip" = n_strip) ▸ F.slot_str_strip
theorem sl_isspace : Slot "str" n_isspace "str.isspace" := (by kernel_rfl : Str.ofString "isspace" = n_isspace) ▸ F.slot_str_isspace

section
variable {c : Cx} {A : Around} {E : Value → Shared → Prop} {s : Shared} {x : Str} {t : Tok} {pl : Sem Bool} {Q : Value × List Value → Shared → Prop}
/-- the method of a str -/
theorem str_method {name : Str} {id : String} (sl : Slot "str" name id) (hty : typeOf (.builtin id) = pure (.type "method_descriptor")) (h : Q (.builtin id, [.str x t]) s) : wpAny c.M A (getMethod (.str x t) name pl) Q E s :=
  getMethod_builtin (typeIs_str _ _ _) F.plainAttrs_str sl hty (fun _ e => nomatch e) h
theorem ms_join (h : Q (.builtin "str.join", [.str x t]) s) : wpAny c.M A (getMethod (.str x t) n_join pl) Q E s := by with_reducible exact str_method sl_join F.type_str_join h
theorem ms_split (h : Q (.builtin "str.split", [.str x t]) s) : wpAny c.M A (getMethod (.str x t) n_split pl) Q E s := by with_reducible exact str_method sl_split F.type_str_split h
theorem ms_replace (h : Q (.builtin "str.replace", [.str x t]) s) : wpAny c.M A (getMethod (.str x t) n_replace pl) Q E s := by with_reducible exact str_method sl_replace F.type_str_replace h
theorem ms_strip (h : Q (.builtin "str.strip", [.str x t]) s) : wpAny c.M A (getMethod (.str x t) n_strip pl) Q E s := by with_reducible exact str_method sl_strip F.type_str_strip h
theorem ms_isspace (h : Q (.builtin "str.isspace", [.str x t]) s) : wpAny c.M A (getMethod (.str x t) n_isspace pl) Q E s := by with_reducible exact str_method sl_isspace F.type_str_isspace h
end
end Mine
end
section
namespace Mine
open PySem PySem.W PySem.W.X PyProof.Rows PySem.Calls

noncomputable def partStr (ps : List (Str × Str)) (i : Nat) : Str := match ps[i]? with | some p => Txt.join t_empty [p.1, p.2] | none => t_empty
noncomputable def lineOf (ps : List (Str × Str)) : Str := Txt.join t_empty (ps.map fun p => Txt.join t_empty [p.1, p.2])

theorem join2_length (a b : Str) : (Txt.join t_empty [a, b]).length = a.length + b.length := by
  show (a.cps ++ #[] ++ b.cps).size = a.cps.size + b.cps.size
  simp
theorem sumLen : ∀ (ps : List (Str × Str)), (∀ p ∈ ps, p.1.length ≤ 10000 ∧ p.2.length ≤ 10000) → ((ps.map fun p => Txt.join t_empty [p.1, p.2]).map (·.length)).sum ≤ ps.length * 20000
  | [], _ => Nat.zero_le _
  | p :: r, h => by
    have h1 := h p (List.mem_cons_self ..)
    have h2 := sumLen r fun q hq => h q (List.mem_cons_of_mem _ hq)
    simp only [List.map_cons, List.sum_cons, List.length_cons, join2_length] at h2 ⊢
    lia

theorem str_spec {c : Cx} {k : Nat} {A : Around} {s : Shared} {x d : Addr} {items : Array Value} {ep : Nat} {od : Obj} {ps : List (Str × Str)} {Q : Value → Shared → Prop} {E : Value → Shared → Prop}
    (I : SInv c s) (R : Room (k + 1) A) (hx : s.heap.get? x = some (accO d items ep)) (hd : s.heap.get? d = some od) (hx2 : 270 ≤ x) (hd2 : 270 ≤ d) (hP : PartsAt s.heap items ps)
    (hz : ∀ p ∈ ps, p.1.length ≤ 10000 ∧ p.2.length ≤ 10000) (hn : ps.length ≤ 100)
    (h : ∀ t s', Ev c s s' → Q (.str (lineOf ps) t) s') : wpAny c.M A (call (.ref 195) [.ref x]) Q E s := by
  refine enterL [(n_self, .ref x)] [] I R (by walk_at "fn") ?_
  intro L s1 eL B kp R'
  have hP1 : PartsAt s1.heap items ps := ⟨hP.1, fun j p hj => let ⟨T, t, t', a, b, e⟩ := hP.2 j p hj; ⟨T, t, t', a, kp _ _ b, e⟩⟩
  refine sK ?_
  refine wpAny_Return_some ?_
  refine c_attr ?_
  refine b_glob B (gv_EMPTYSTRING _) (by kernel_rfl) (by kernel_rfl) (by kernel_rfl) (by kernel_rfl) (by kernel_rfl) ?_
  with_reducible refine ms_join ?_
  refine cw_builtin ?_
  refine a_cons ?_
  refine genParts (fun i y => ∃ t, y = .str (partStr ps i) t ∧ i < ps.length) B R' (.inr (.inr ⟨rfl, rfl⟩)) (by kernel_rfl) (by kernel_rfl) rfl (by kernel_rfl) (by kernel_rfl) (kp _ _ hx) (kp _ _ hd) hP1 rfl (by kernel_rfl) (by decide) (by decide) (by decide) (by decide) (by decide) rfl ?_ ?_
  · intro A' E' i p t t' C code s₂ m₂ hA hp hn ha hb X
    have hzp := hz p (List.mem_of_getElem? hp)
    refine c_attr ?_
    refine glob_X X (gv_EMPTYSTRING _) (by rfl) (by kernel_rfl) (by rfl) (by kernel_rfl) (by kernel_rfl) ?_
    with_reducible refine ms_join ?_
    refine cw_builtin ?_
    refine a_cons ?_
    refine wpAny_Tuple ?_
    refine a_cons ?_
    refine wpAny_Name (wpAny_loadName_local (m := m₂) (by rfl) (by kernel_rfl) hn ha ?_) (by kernel_rfl)
    refine a_cons ?_
    refine wpAny_Name (wpAny_loadName_local (m := m₂) (by rfl) (by kernel_rfl) hn hb ?_) (by kernel_rfl)
    refine a_nil ?_
    refine ⟨by walk_at "sz", ?_⟩
    refine a_nil ?_
    refine join_tuple (items := #[.str p.1 t, .str p.2 t']) (ys := [p.1, p.2]) ⟨_, Heap.get?_push_size _ rfl, rfl, _, rfl⟩ ?_ ?_ ?_
    · exact .cons _ _ (.cons _ _ .nil)
    · simp only [List.map_cons, List.map_nil, List.sum_cons, List.sum_nil, List.length_cons, List.length_nil]
      show p.1.length + (p.2.length + 0) + 2 * 0 ≤ _
      lia
    · intro t9 k9
      have e9 : partStr ps i = Txt.join t_empty [p.1, p.2] := by unfold partStr; rw [hp]
      rw [e9]
      exact ⟨⟨_, rfl, (List.getElem?_eq_some_iff.mp hp).1⟩, _, _, rfl, fun _ _ e => Heap.get?_push_of_some _ e⟩
  · intro a s5 fp wr G St Ev5 Wk hst hfp hwr hG hz5 haw hga hT ha
    refine a_nil ?_
    have W1 := Wk.in4_2
    refine SC.joinGen (n := ps.length) W1 hT hst hfp ha (fun i v hv => let ⟨t, e, _⟩ := hv; ⟨_, t, e⟩) ?_ (by rw [sizeLine_val]; lia)
    intro s6 l hm hi
    have el : l.map (·.1) = ps.map fun p => Txt.join t_empty [p.1, p.2] := by
      have hl : l.length = ps.length := by have := hi.1; simpa [strValues] using this
      refine List.ext_getElem? fun j => ?_
      rw [List.getElem?_map, List.getElem?_map]
      by_cases hj : j < l.length
      · rw [List.getElem?_eq_getElem hj, List.getElem?_eq_getElem (hl ▸ hj)]
        obtain ⟨t9, e9, _⟩ := hi.2 j (.str l[j].1 l[j].2) (by simp [strValues, hj])
        have e8 : partStr ps j = Txt.join t_empty [ps[j].1, ps[j].2] := by unfold partStr; rw [List.getElem?_eq_getElem (hl ▸ hj)]
        rw [e8] at e9
        have := (Value.str.inj e9).1
        exact congrArg some this
      · rw [List.getElem?_eq_none (Nat.le_of_not_lt hj), List.getElem?_eq_none (Nat.le_of_not_lt (hl ▸ hj))]; rfl
    rw [el]
    refine ⟨?_, fun t' k' => ?_⟩
    · refine joinOk_of ?_
      have hs : ((ps.map fun p => Txt.join t_empty [p.1, p.2]).map (·.length)).sum ≤ ps.length * 20000 := sumLen ps hz
      have : (ps.map fun p => Txt.join t_empty [p.1, p.2]).length * t_empty.length = 0 := Nat.mul_zero _
      rw [this]
      lia
    · exact h t' _ (genEnd I B eL kp Ev5 hwr hG hz5 haw hga hm.heap hm.gens hm.os)
end Mine
end
section
namespace Mine
open PySem PySem.W PySem.W.X PyProof.Rows PySem.Calls

noncomputable abbrev bndO (bt : String) (id : String) (x : Addr) : Obj := ⟨.type bt, none, .fields #[.builtin id, .ref x], #[]⟩

section
variable {M : Model} {A : Around} {E : Value → Shared → Prop} {s : Shared} {x C : Addr}
theorem get_w {P : Fin → Shared → Prop} {id : String} (hi : Looks M s.heap (isInstance (.ref x) (.type "list")) true)
    (hid : id = "list.__len__" ∨ id = "list.__init__")
    (h : P (.done (.ret (.ref s.heap.objs.size))) { s with heap := s.heap.push (bndO "method-wrapper" id x) }) :
    wpAny M A (Builtin.«wrapper_descriptor.__get__» ⟨[.builtin id, .ref x, .ref C], []⟩) P E s := by
  unfold Builtin.«wrapper_descriptor.__get__»
  refine wpAny_bind (wpAny_of_eq (a := (.builtin id, some (.ref x), some (.ref C))) (by first | rfl | kernel_rfl) ?_)
  dsimp only
  refine wpAny_bind ?_
  refine wpAny_bind ?_
  rcases hid with rfl | rfl
  · refine wpAny_of_eq (a := (Str.ofString "__len__", .type "list")) (by first | rfl | kernel_rfl) ?_
    dsimp only
    refine wpAny_bind (hi.here ?_)
    refine wpAny_pure ?_
    exact wpAny_bind (wpAny_newObj_type (wpAny_pure h))
  · refine wpAny_of_eq (a := (Str.ofString "__init__", .type "list")) (by first | rfl | kernel_rfl) ?_
    dsimp only
    refine wpAny_bind (hi.here ?_)
    refine wpAny_pure ?_
    exact wpAny_bind (wpAny_newObj_type (wpAny_pure h))

theorem get_p {P : Fin → Shared → Prop} (hi : Looks M s.heap (isInstance (.ref x) (.type "list")) true)
    (h : P (.done (.ret (.ref s.heap.objs.size))) { s with heap := s.heap.push (bndO "builtin_function_or_method" "list.pop" x) }) :
    wpAny M A (Builtin.«method_descriptor.__get__» ⟨[.builtin "list.pop", .ref x, .ref C], []⟩) P E s := by
  unfold Builtin.«method_descriptor.__get__»
  refine wpAny_bind (wpAny_of_eq (a := (.builtin "list.pop", some (.ref x), some (.ref C))) (by first | rfl | kernel_rfl) ?_)
  dsimp only
  have hno : Manifest.toldItsClass.contains "list.pop" = false := by decide +kernel
  rw [hno]
  refine wpAny_bind ?_
  refine wpAny_bind ?_
  refine wpAny_of_eq (a := (Str.ofString "pop", .type "list")) (by first | rfl | kernel_rfl) ?_
  dsimp only
  refine wpAny_bind (hi.here ?_)
  refine wpAny_pure ?_
  exact wpAny_bind (wpAny_newObj_type (wpAny_pure h))
end

theorem slot_wget : Slot "wrapper_descriptor" "__get__" "wrapper_descriptor.__get__" :=
  .of (owner := "wrapper_descriptor") (n := "__get__") (by rw [typeLookup_type, builtinLookup_eq_fast]; kernel_rfl) (by decide +kernel) (by decide +kernel) (by decide +kernel)
    (by first | exact .inl (by decide +kernel) | exact .inr (by decide +kernel)) (by rw [isSubtype_type]; kernel_rfl)
theorem entry_wget : entryFor table "wrapper_descriptor.__get__" = some Builtin.«wrapper_descriptor.__get__» := entryFor_of_tree (by kernel_rfl)
theorem args_wget (a b c : Value) : argsOk "wrapper_descriptor.__get__" ⟨[a, b, c], []⟩ := by unfold argsOk; kernel_rfl
theorem slot_mget : Slot "method_descriptor" "__get__" "method_descriptor.__get__" :=
  .of (owner := "method_descriptor") (n := "__get__") (by rw [typeLookup_type, builtinLookup_eq_fast]; kernel_rfl) (by decide +kernel) (by decide +kernel) (by decide +kernel)
    (by first | exact .inl (by decide +kernel) | exact .inr (by decide +kernel)) (by rw [isSubtype_type]; kernel_rfl)
theorem entry_mget : entryFor table "method_descriptor.__get__" = some Builtin.«method_descriptor.__get__» := entryFor_of_tree (by kernel_rfl)
theorem args_mget (a b c : Value) : argsOk "method_descriptor.__get__" ⟨[a, b, c], []⟩ := by unfold argsOk; kernel_rfl
theorem ty_llen : typeOf (.builtin "list.__len__") = pure (.type "wrapper_descriptor") := by show builtinType _ = _; rw [builtinType_eq_fast]; kernel_rfl
theorem ty_linit : typeOf (.builtin "list.__init__") = pure (.type "wrapper_descriptor") := by show builtinType _ = _; rw [builtinType_eq_fast]; kernel_rfl
theorem ty_lpop : typeOf (.builtin "list.pop") = pure (.type "method_descriptor") := by show builtinType _ = _; rw [builtinType_eq_fast]; kernel_rfl

/-- the descriptor of a builtin bound by its __get__ -/
noncomputable def GetsTo (c : Cx) (id dt gid bt : String) (b : Builtin) : Prop :=
  typeOf (.builtin id) = pure (.type dt) ∧ Slot dt "__get__" gid ∧ entryFor table gid = some b ∧ (∀ a b c, argsOk gid ⟨[a, b, c], []⟩) ∧
  ∀ (A : Around) (P : Fin → Shared → Prop) (E : Value → Shared → Prop) (s : Shared) (x C : Addr), Looks c.M s.heap (isInstance (.ref x) (.type "list")) true →
    P (.done (.ret (.ref s.heap.objs.size))) { s with heap := s.heap.push (bndO bt id x) } → wpAny c.M A (b ⟨[.builtin id, .ref x, .ref C], []⟩) P E s

theorem gt_len (c : Cx) : GetsTo c "list.__len__" "wrapper_descriptor" "wrapper_descriptor.__get__" "method-wrapper" Builtin.«wrapper_descriptor.__get__» :=
  ⟨ty_llen, slot_wget, entry_wget, args_wget, fun _ _ _ _ _ _ hi h => get_w hi (.inl rfl) h⟩
theorem gt_init (c : Cx) : GetsTo c "list.__init__" "wrapper_descriptor" "wrapper_descriptor.__get__" "method-wrapper" Builtin.«wrapper_descriptor.__get__» :=
  ⟨ty_linit, slot_wget, entry_wget, args_wget, fun _ _ _ _ _ _ hi h => get_w hi (.inr rfl) h⟩
theorem gt_pop (c : Cx) : GetsTo c "list.pop" "method_descriptor" "method_descriptor.__get__" "builtin_function_or_method" Builtin.«method_descriptor.__get__» :=
  ⟨ty_lpop, slot_mget, entry_mget, args_mget, fun _ _ _ _ _ _ hi h => get_p hi h⟩

noncomputable abbrev supO (x : Addr) : Obj := ⟨.type "super", none, .fields #[.ref 221, .ref x, .ref 221], #[]⟩

section
variable {c : Cx} {A : Around} {E : Value → Shared → Prop} {so x : Addr} {h : Heap} {g : Array GenState} {d : Drawn} {t : Nat} {os : OsState} {id dt gid bt : String} {b : Builtin} {name : Str}
theorem super_ga {tk : Tok} {Q : Fin → Shared → Prop} (G : GetsTo c id dt gid bt b) (X : (KS c.w.params).In h) (hso : h.get? so = some (supO x)) (hi : Looks c.M h (isInstance (.ref x) (.type "list")) true)
    (hf : alongIn (KS c.w.params) name [.type "list", .type "object"] = some (some (.builtin id))) (hxC : x ≠ 221) (hn : (name == ("__class__" : Str)) = false)
    (hq : Q (.done (.ret (.ref h.objs.size))) ⟨h.push (bndO bt id x), g, d, t, os⟩) :
    wpAny c.M A (Builtin.«super.__getattribute__» ⟨[.ref so, .str name tk], []⟩) Q E ⟨h, g, d, t, os⟩ := by
  refine hG fun zP zK => ?_
  obtain ⟨G1, G2, G3, G4, G5⟩ := G
  refine zK ?_
  have hno : Looks c.M h (opaqueClassAbove (.ref 221)) none := looks_opaque X (by kernel_rfl)
  have hC : Looks c.M h (mroOf (.ref 221)) [.ref 221, .type "list", .type "object"] := by
    have hc : (clsIn (KS c.w.params) 221).map (·.mro) = some [.ref 221, .type "list", .type "object"] := by kernel_rfl
    obtain ⟨cd, e1, e2⟩ := Option.map_eq_some_iff.mp hc
    rw [← e2]; exact (looks_clsIn X e1).andThen .now
  have hlk := G2.lookup
  have hT : ∀ s : Shared, s.TypeIs (.builtin id) dt := fun _ => G1
  have hne : (Value.ref x == Value.ref 221) = false := by simp [hxC]
  have hdt : (supO x).data = .fields #[.ref 221, .ref x, .ref 221] := rfl
  have f0 : (#[.ref 221, .ref x, .ref 221] : Array Value)[0]? = some (.ref 221) := rfl
  have f1 : (#[.ref 221, .ref x, .ref 221] : Array Value)[1]? = some (.ref x) := rfl
  have f2 : (#[.ref 221, .ref x, .ref 221] : Array Value)[2]? = some (.ref 221) := rfl
  have hl : ([Value.ref 221, .type "list", .type "object"].dropWhile (· != .ref 221)).drop 1 = [.type "list", .type "object"] := by decide
  unfold Builtin.«super.__getattribute__»
  repeat (first
    | (with_reducible refine wpAny_field hso hdt f0 ?_) | (with_reducible refine wpAny_field hso hdt f1 ?_) | (with_reducible refine wpAny_field hso hdt f2 ?_)
    | (with_reducible refine ks_wpAny_notOpaque hno ?_)
    | (with_reducible refine Looks.at hC ?_; rw [hl])
    | (refine ks_forIn_along X (fun _ _ => rfl) rfl ?_ hf)
    | (with_reducible refine wpAny_call_entry G2 (hT _) G3 ?_ (G4 _ _ _))
    | (with_reducible refine G5 _ _ _ _ _ _ hi ?_)
    | (with_reducible refine ⟨_, rfl, ?_⟩)
    | (simp only [hn, hne, G1, Bool.or_false, Bool.false_eq_true, if_false])
    | wp_step
    | dsimp only)
  all_goals exact hq
end
end Mine
end
section
namespace Mine
open PySem PySem.W PySem.W.X PyProof.Rows PySem.Calls

section
variable {c : Cx} {A : Around} {E : Value → Shared → Prop} {so x : Addr} {h : Heap} {g : Array GenState} {d : Drawn} {t : Nat} {os : OsState} {id dt gid bt : String} {b : Builtin} {name : Str}
theorem super_getMethod {pl : Sem Bool} {Q : Value × List Value → Shared → Prop} (G : GetsTo c id dt gid bt b) (X : (KS c.w.params).In h) (hso : h.get? so = some (supO x)) (hi : Looks c.M h (isInstance (.ref x) (.type "list")) true)
    (hf : alongIn (KS c.w.params) name [.type "list", .type "object"] = some (some (.builtin id))) (hxC : x ≠ 221) (hn : (name == ("__class__" : Str)) = false)
    (hq : Q (.ref h.objs.size, []) ⟨h.push (bndO bt id x), g, d, t + 1, os⟩) :
    wpAny c.M A (getMethod (.ref so) name pl) Q E ⟨h, g, d, t, os⟩ := by
  have hlk := F.ks_slot_super_ga.lookup
  have hcan := F.ks_canon_super_ga
  have hT : ∀ t', (⟨h, g, d, t', os⟩ : Shared).TypeIs (.ref so) "super" := fun _ => ⟨_, hso, rfl⟩
  unfold getMethod
  refine wpAny_bind (wpAny_specialOf (hT _) hlk ?_)
  show wpAny _ _ (if (Manifest.canonical "super.__getattribute__" != "object.__getattribute__") = true then _ else _) _ _ _
  rw [if_pos hcan]
  unfold getAttr getAttrBy
  refine wpAny_bind (wpAny_bind (wpAny_mkText (wpAny_holding (wpAny_bind (wpAny_typeOf (hT _) (wpAny_bind (wpAny_of_eq hlk ?_)))))))
  show wpAny _ _ (getAttrByItsOwn (.ref so) (.str name t) (.type "super") (.builtin "super.__getattribute__") true false) _ _ _
  unfold getAttrByItsOwn hookBefore callGetattribute boundAndCalled
  refine wpAny_bind (wpAny_of_eq (show (if onTheHeap (.type "super") then typeLookup (.type "super") "__getattr__" else pure none) = pure none from rfl) ?_)
  refine wpAny_bind (wpAny_attempt (wpAny_holding ?_))
  show wpAny _ _ (bindSpecial (.builtin "super.__getattribute__") (.ref so) >>= _) _ _ _
  refine wpAny_bind (wpAny_of_eq (F.ks_slot_super_ga.bind _) ?_)
  refine wpAny_mono (Q := fun v s' => v = .ref h.objs.size ∧ s' = ⟨h.push (bndO bt id x), g, d, t + 1, os⟩) (E := fun _ _ => False)
    (wpAny_call_entry F.ks_slot_super_ga (hT _) F.ks_entry_super_ga (super_ga G X hso hi hf hxC hn ⟨_, rfl, rfl, rfl⟩) (F.ks_gaArgs_super _ _)) (fun v s' hv => ?_) fun _ _ z => z.elim
  obtain ⟨rfl, rfl⟩ := hv
  exact wpAny_pure (wpAny_pure hq)
end

/-- a bound builtin of a list called without arguments -/
structure BndTo (c : Cx) (id bt : String) (b : Builtin) : Prop where
  entry : entryFor table id = some b
  ty : bt = "method-wrapper" ∨ bt = "builtin_function_or_method"
  plain : plainId id = true
  chk : ∀ (A : Around) (P : Unit → Shared → Prop) (E : Value → Shared → Prop) (s : Shared) (x : Addr) (ox : Obj) (od : Option Obj), (KS c.w.params).In s.heap → InstAt s.heap x ox 221 od → P () s → wpAny c.M A (checkBoundCall id ⟨[.ref x], []⟩) P E s

theorem chk_w {M : Model} {A : Around} {P : Unit → Shared → Prop} {E : Value → Shared → Prop} {s : Shared} {id : String} {x : Addr} (h1 : argsOk id ⟨[.ref x], []⟩) (h2 : builtinKind id = some .slot) (h : P () s) :
    wpAny M A (checkBoundCall id ⟨[.ref x], []⟩) P E s := by
  unfold checkBoundCall
  cases hsig : Manifest.signature? id with
  | none => exact wpAny_pure h
  | some sig =>
    simp only [argsOk, hsig] at h1
    have e2 : Bind.checkArgs id sig ⟨[.ref x], []⟩ = pure () := h1
    dsimp only
    rw [h2]
    dsimp only
    rw [if_pos (by decide)]
    rw [e2]
    exact wpAny_pure h

theorem chk_p {c : Cx} {A : Around} {P : Unit → Shared → Prop} {E : Value → Shared → Prop} {s : Shared} {x : Addr} {ox : Obj} {od : Option Obj} (X : (KS c.w.params).In s.heap) (I : InstAt s.heap x ox 221 od) (h : P () s) :
    wpAny c.M A (checkBoundCall "list.pop" ⟨[.ref x], []⟩) P E s := by
  have hz : (match Manifest.signature? "list.pop" with | some sig => Bind.checkArgs "list.pop" { sig with full := toString "_Accumulator" ++ toString "." ++ toString (Bind.lastOf "list.pop") } ⟨[.ref x], []⟩ | none => pure ()) = pure () := by kernel_rfl
  have hk : builtinKind "list.pop" = some .method := by kernel_rfl
  have hm : mroIn (KS c.w.params) 221 (.type "module") = some false := by kernel_rfl
  have hv : Manifest.varargsMethods.contains "list.pop" = false := by decide +kernel
  obtain ⟨hh, g, d, t, os⟩ := s
  have sub : Looks c.M hh (isInstance (.ref x) (.type "module")) false := I.type.andThen (looks_mroIn X hm)
  have hc : (clsIn (KS c.w.params) 221).map (·.qualname.toString) = some "_Accumulator" := by kernel_rfl
  have ht : typeIn (KS c.w.params) (.ref 221) = some (.type "type") := by kernel_rfl
  obtain ⟨cd, e1, e2⟩ := Option.map_eq_some_iff.mp hc
  unfold checkBoundCall
  cases hsig : Manifest.signature? "list.pop" with
  | none => exact wpAny_pure h
  | some sig =>
    simp only [hsig] at hz
    dsimp only
    rw [hk]
    dsimp only
    rw [if_neg (by decide)]
    refine wpAny_bind (sub.at ?_)
    rw [hv]
    rw [if_neg (by decide)]
    refine wpAny_bind ?_
    refine ks_wpAny_isType_inst I.at_ ?_ ?_
    · intro c' e
      have := I.no
      unfold notCls at this
      rw [e] at this
      exact Bool.noConfusion this
    · rw [if_neg (by decide)]
      refine wpAny_bind (I.type.at ?_)
      dsimp only
      refine wpAny_bind ((looks_clsIn X e1).at ?_)
      refine wpAny_bind ((looks_typeIn X ht).at ?_)
      rw [if_pos (by decide)]
      rw [e2, hz]
      exact wpAny_pure h

theorem bd_len (c : Cx) : BndTo c "list.__len__" "method-wrapper" Builtin.«list.__len__» where
  entry := entryFor_of_tree (by kernel_rfl)
  ty := .inl rfl
  plain := by kernel_rfl
  chk := by
    intro A P E s x ox od X I h
    with_reducible refine chk_w ?_ ?_ h
    · unfold argsOk; kernel_rfl
    · kernel_rfl
theorem bd_init (c : Cx) : BndTo c "list.__init__" "method-wrapper" Builtin.«list.__init__» where
  entry := entryFor_of_tree (by kernel_rfl)
  ty := .inl rfl
  plain := by kernel_rfl
  chk := by
    intro A P E s x ox od X I h
    with_reducible refine chk_w ?_ ?_ h
    · unfold argsOk; kernel_rfl
    · kernel_rfl
theorem bd_pop (c : Cx) : BndTo c "list.pop" "builtin_function_or_method" Builtin.«list.pop» where
  entry := entryFor_of_tree (by kernel_rfl)
  ty := .inr rfl
  plain := by kernel_rfl
  chk := by
    intro A P E s x ox od X I h
    with_reducible exact chk_p X I h

section
variable {c : Cx} {A : Around} {E : Value → Shared → Prop} {s : Shared} {bt id : String} {b : Builtin} {q x : Addr} {ox : Obj} {od : Option Obj}
/-- the call of such a bound builtin -/
theorem bnd_call {env : Env} {pos : Pos} {Q : Value → Shared → Prop} (B : BndTo c id bt b) (X : (KS c.w.params).In s.heap) (hq : s.heap.get? q = some (bndO bt id x)) (I : InstAt s.heap x ox 221 od)
    (h : wpAny c.M A.in1 (b ⟨[.ref x], []⟩) (fun fin s' => ∃ v, fin = .done (.ret v) ∧ Q v s') E s) :
    wpAny c.M A (callWith pos (.ref q) [] (backTo pos (starEach [] env)) []) Q E s := by
  obtain ⟨B1, B3, B5, B4⟩ := B
  have hcall : wpAny c.M A (call (.ref q) [] []) Q E s := by
    refine wpAny_call (codeAny_of_tree ?_)
    show wpAny _ A.in1 (callAny (.ref q) ⟨[], []⟩) _ _ s
    simp only [callAny]
    refine wpAny_bind (wpAny_load hq ?_)
    have t1 : ((bndO bt id x).cls == .type "method" || (bndO bt id x).cls == .type "builtin_function_or_method" || (bndO bt id x).cls == .type "method-wrapper") = true := by rcases B3 with rfl | rfl <;> (dsimp only; decide)
    have t2 : ((bndO bt id x).cls != .type "method") = true := by rcases B3 with rfl | rfl <;> (dsimp only; decide)
    refine KFB.if_so t1 ?_
    refine KFB.if_so t2 ?_
    refine wpAny_bind (B4 _ _ _ _ _ _ _ X I ?_)
    refine wpAny_bind (wpAny_pure (wpAny_pure ?_))
    refine ⟨plainId_quiet B5 _, codeAny_builtin B1 ?_⟩
    rw [Around.under_plainId B5 _]
    refine wpAny_mono h (fun fin s' hf => ?_) fun _ _ e => e
    obtain ⟨v, rfl, hv⟩ := hf
    exact hv
  unfold callWith
  refine wpAny_bind (wpAny_holding (PyProof.Rows.evalArgs_none (wpAny_bind (wpAny_standAt ?_))))
  refine wpAny_bind (m := keeperOf (.ref q)) ?_
  unfold keeperOf
  refine wpAny_bind (wpAny_load hq ?_)
  have t3 : ((bndO bt id x).cls == .type "builtin_function_or_method" || (bndO bt id x).cls == .type "method-wrapper") = true := by rcases B3 with rfl | rfl <;> (dsimp only; decide)
  have t2 : ((bndO bt id x).cls != .type "method") = true := by rcases B3 with rfl | rfl <;> (dsimp only; decide)
  dsimp only at t2 t3 ⊢
  simp only [t2, t3, if_true]
  refine wpAny_pure ?_
  exact wpAny_bind (wpAny_mono hcall (fun r s₂ hr => wpAny_bind (wpAny_holding (wpAny_point (wpAny_pure hr)))) fun _ _ x => x)
end
end Mine
end
section
namespace Mine
open PySem PySem.W PySem.W.X PyProof.Rows PySem.Calls

theorem enterMA {c : Cx} {k : Nat} {A : Around} {s : Shared} {f : Addr} {args : List Value} (m : List (Str × Value)) {Q : Value → Shared → Prop} {E : Value → Shared → Prop} {mu : List (Addr × Obj)}
    (I : SInv c s) (R : Room (k + 1) A) (H : Has mu s) (O : FnOk c.w.params f args m)
    (h : ∀ L s', L = s.heap.objs.size → Bod c (hideAll s.heap (tabs ++ mu.map (·.1))) L m mu s' → Room k (A.deeper (envF c.w.params f L)) →
      PySem.wpAt c.M (A.deeper (envF c.w.params f L)) (.func (bodyF c.w.params f) (envF c.w.params f L)) (execs (bodyF c.w.params f) (envF c.w.params f L)) (fun fl s' => Q (match fl with | .ret v => v | _ => .none) s') (fun _ _ => False) s') :
    wpAny c.M A (call (.ref f) args) Q E s := by
  have hB : BindsTo s (fdF c.w.params f) ⟨args, []⟩ m.reverse := O.binds I.kin
  refine wpAny_call ?_
  refine ks_codeAny_call_defAt (fd := fdF c.w.params f) (body := bodyF c.w.params f) (binds := m.reverse) R.lim (inK I O.at_) O.data (noLimit_of I) (codeRec_of I.kin O.code) O.body hB
    (fun x hx => of_decide_eq_true (List.all_eq_true.mp O.cell x hx)) (fun x hx => of_decide_eq_true (List.all_eq_true.mp O.loc x (List.mem_reverse.mp hx))) (fun h₁ hns hk₁ => ?_) O.co O.gen O.kind
  rw [List.reverse_reverse] at hns
  have hz : s.heap.objs.size ≤ h₁.objs.size := Nat.le_of_lt hns.lt
  have I' : SInv c { s with heap := h₁, toks := s.toks + m.reverse.length } := I.keeps hk₁ hz
  have B0 : Bod c (hideAll s.heap (tabs ++ mu.map (·.1))) s.heap.objs.size m [] { s with heap := h₁, toks := s.toks + m.reverse.length } := by
    refine ⟨I', hns, fun b o e => hk₁ b o (of_hideAll _ e), hide_tabs, ?_, fun _ hp => (nomatch hp), fun _ hp => (nomatch hp), by simp, I.size, fun _ hp => (nomatch hp), by rw [hideAll_size]; exact hz⟩
    cases q : (hideAll s.heap (tabs ++ mu.map (·.1))).get? s.heap.objs.size with
    | none => rfl
    | some o => exact absurd (Heap.lt_size (of_hideAll _ q)) (Nat.lt_irrefl _)
  exact ks_wpAt_mono (h _ _ rfl (B0.takeAll hk₁ (Nat.le_refl _) H.own rfl H.nod) (R.deeper _)) (fun fl s' q => q) (fun _ _ q => q.elim)

/-- what a def with super() in it asks -/
structure SupOk (P : Params) (f cc : Addr) : Prop where
  ks : ∀ L, (envF P f L).kindOf n_super = some .globalImplicit
  kc : ∀ L, (envF P f L).kindOf n_class_dd = some .free
  kl : ∀ L, (envF P f L).kindOf n_self = some .local
  kd : ∀ L, (envF P f L).scope.kind = .function
  gl : ∀ L, (envF P f L).globals = 3
  bi : ∀ L, (envF P f L).builtins = 0
  at_ : (KS P).lookup f = some (oF P f)
  data : (oF P f).data = .func (fdF P f)
  self : ((fdF P f).params.posonlyargs ++ (fdF P f).params.args).head?.map (·.arg) = some n_self
  code : ∀ L, (envF P f L).code = .ref cc
  cat : (KS P).lookup cc = some (oF P cc)
  file : (match (oF P cc).data with | .fields vs => (match (vs[2]? : Option Value) with | some (Value.str file _) => (prg.main.file : Str) == file | _ => false) | _ => false) = true
  cell : ∀ L, (envF P f L).cells.lookup n_class_dd = some 145

section
variable {c : Cx} {he : Heap} {L : Addr} {m : List (Str × Value)} {mu : List (Addr × Obj)} {s : Shared} {A : Around} {E : Value → Shared → Prop} {f cc x : Addr} {ox : Obj} {od : Option Obj}
theorem b_superBase {p0 p1 : Pos} {attr : Str} {whole : Sem Value} {Q : Value → Shared → Prop} (B : Bod c he L m mu s) (O : SupOk c.w.params f cc) (hm : m.lookup n_self = some (.ref x)) (I : InstAt s.heap x ox 221 od)
    (hat : (attr == n_class_dd) = false)
    (h : ∀ so h', h'.get? so = some (supO x) → Kept s.heap h' → Bod c he L m mu { s with heap := h' } → Q (.ref so) { s with heap := h' }) :
    PySem.wpAt c.M A (.func (bodyF c.w.params f) (envF c.w.params f L)) (attributeBase (.Call (.Name n_super p0) [] [] p1) attr (envF c.w.params f L) whole) Q E s := by
  have e1 : (Str.ofString "super") = n_super := by kernel_rfl
  have e2 : (Str.ofString "__class__") = n_class_dd := by kernel_rfl
  have htop : (prg.main.scope.names.lookup ("super" : Str)).isSome = false := by kernel_rfl
  have hgv : gval c.w.params n_super = some (.type "super") := by kernel_rfl
  have hcell : (KS c.w.params).lookup 145 = some (oF c.w.params 145) := by kernel_rfl
  have hcelld : (oF c.w.params 145).data = .cell (some (.ref 221)) := by kernel_rfl
  have hcls : (clsIn (KS c.w.params) 221).isSome = true := by kernel_rfl
  have hsub : mroIn (KS c.w.params) 221 (.ref 221) = some true := by kernel_rfl
  obtain ⟨ar, har, ear⟩ := Option.map_eq_some_iff.mp O.self
  have hfile := O.file
  split at hfile
  · rename_i vs hvs
    split at hfile
    · rename_i file tf hf2
      rw [← e1]
      refine ks_wpAt_super_base (env := envF c.w.params f L) (e1 ▸ O.ks L) (e2 ▸ O.kc L) (e2 ▸ hat) rfl (inK B.inv O.at_) O.data har (O.code L) (inK B.inv O.cat) hvs hf2 hfile htop ?_
      rw [e1, e2, ear]
      refine ks_loadName_global (O.kd L) (O.ks L) ?_
      refine loadGlobal_K B.inv hgv (O.gl L) (O.bi L) ⟨rfl, ?_⟩
      refine wpAny_loadName_free (O.kd L) (O.kc L) (O.cell L) ⟨_, inK B.inv hcell, hcelld⟩ ?_
      refine wpAny_loadName_local (m := fun y => m.lookup y) (O.kd L) (O.kl L) ((envF_locals _ _ _) ▸ B.ns) hm ?_
      obtain ⟨cd, hcd⟩ := Option.isSome_iff_exists.mp hcls
      obtain ⟨oD, hD1, hD2⟩ : ∃ oD, s.heap.get? 221 = some oD ∧ oD.data = .cls cd := by
        unfold clsIn at hcd
        split at hcd
        · rename_i c d cd' sl ho
          cases hcd
          exact ⟨_, B.inv.kin _ _ ho, rfl⟩
        · cases hcd
      obtain ⟨hh, g, d, t, os⟩ := s
      refine ks_wpAny_isType_cls hD1 hD2 ⟨rfl, ?_⟩
      refine ks_wpAny_call_super hD1 hD2 I.at_ I.cls (fun c e => ?_) (looks_mroIn B.inv.kin hsub) (fun h' e k => ?_)
      · have := I.no
        unfold notCls at this
        rw [e] at this
        exact Bool.noConfusion this
      · exact h _ h' e k (B.grown (t := t) k (Nat.le_of_lt (Heap.lt_size e)))
    · cases hfile
  · cases hfile

theorem b_super {id dt gid bt : String} {b gb : Builtin} {p0 p1 apos pos : Pos} {attr : Str} {Q : Value → Shared → Prop} (G : GetsTo c id dt gid bt gb) (D : BndTo c id bt b) (B : Bod c he L m mu s) (O : SupOk c.w.params f cc) (hm : m.lookup n_self = some (.ref x)) (I : InstAt s.heap x ox 221 od)
    (hat : (attr == n_class_dd) = false) (hf : alongIn (KS c.w.params) attr [.type "list", .type "object"] = some (some (.builtin id)))
    (h : ∀ s', Bod c he L m mu s' → Kept s.heap s'.heap → wpAny c.M A.in1 (b ⟨[.ref x], []⟩) (fun fin s' => ∃ v, fin = .done (.ret v) ∧ Q v s') E s') (hline : (apos.endLine == pos.line) = true := by rfl) :
    PySem.wpAt c.M A (.func (bodyF c.w.params f) (envF c.w.params f L)) (eval (.Call (.Attribute (.Call (.Name n_super p0) [] [] p1) attr apos) [] [] pos) (envF c.w.params f L)) Q E s := by
  have e2 : (Str.ofString "__class__") = n_class_dd := by kernel_rfl
  have hsub : mroIn (KS c.w.params) 221 (.type "list") = some true := by kernel_rfl
  have hx : x ≠ 221 := by
    rintro rfl
    have hcls : (clsIn (KS c.w.params) 221).isSome = true := by kernel_rfl
    obtain ⟨cd, hcd⟩ := Option.isSome_iff_exists.mp hcls
    exact ks_ne B.inv.kin I hcd rfl
  rw [arm_eval_Call]
  refine PySem.wpAt_bind (PySem.wpAt_mono (b_superBase B O hm I hat (fun so h' e k B' => ?_)) (fun _ _ q => q) fun _ _ q => q)
  refine PySem.wpAt_of_wpAny ?_
  refine wpAny_bind (wpAny_standAt ?_)
  have hpos : methodCallPos true (.Call (.Name n_super p0) [] [] p1) (envF c.w.params f L) apos pos = pure pos := by unfold methodCallPos; simp [hline]
  have hform : methodCallForm (([] : List Expr).length + ([] : List Keyword).length) (backTo pos (starEach [] (envF c.w.params f L))) (backToKw pos (keywordEach [] (envF c.w.params f L))) = true := rfl
  unfold methodCall
  rw [hform]
  refine wpAny_bind (wpAny_holding ?_)
  obtain ⟨hh, g, d, t, os⟩ := s
  have I' : InstAt h' x ox 221 od := ⟨k _ _ I.at_, I.cls, I.no, by
    have := I.dict
    revert this
    cases ox.dict <;> cases od <;> intro q <;> first | exact q | exact k _ _ q⟩
  have sub : Looks c.M h' (isInstance (.ref x) (.type "list")) true := I'.type.andThen (looks_mroIn B'.inv.kin hsub)
  refine super_getMethod G B'.inv.kin e sub hf hx (e2 ▸ hat) ?_
  have k2 : Kept h' (h'.push (bndO bt id x)) := fun b o e => Heap.get?_push_of_some _ e
  have B2 := B'.push (bndO bt id x) (t + 1)
  have I2 : InstAt (h'.push (bndO bt id x)) x ox 221 od := ⟨k2 _ _ I'.at_, I'.cls, I'.no, by
    have := I'.dict
    revert this
    cases ox.dict <;> cases od <;> intro q <;> first | exact q | exact k2 _ _ q⟩
  refine wpAny_bind (wpAny_of_eq hpos ?_)
  refine bnd_call (s := ⟨h'.push (bndO bt id x), g, d, t + 1, os⟩) D B2.inv.kin (Heap.get?_push_size _ rfl) I2 ?_
  exact h _ B2 (fun b o e => k2 _ _ (k _ _ e))
end
end Mine
end
section
namespace Mine
open PySem PySem.W PySem.W.X PyProof.Rows PySem.Calls



theorem so_218 (P : Params) : SupOk P 218 217 := ⟨fun _ => by kernel_rfl, fun _ => by kernel_rfl, fun _ => by kernel_rfl, fun _ => by kernel_rfl, fun _ => by kernel_rfl, fun _ => by kernel_rfl, by kernel_rfl, by kernel_rfl, by kernel_rfl, fun _ => by kernel_rfl, by kernel_rfl, by kernel_rfl, fun _ => by kernel_rfl⟩
theorem so_181 (P : Params) : SupOk P 181 180 := ⟨fun _ => by kernel_rfl, fun _ => by kernel_rfl, fun _ => by kernel_rfl, fun _ => by kernel_rfl, fun _ => by kernel_rfl, fun _ => by kernel_rfl, by kernel_rfl, by kernel_rfl, by kernel_rfl, fun _ => by kernel_rfl, by kernel_rfl, by kernel_rfl, fun _ => by kernel_rfl⟩
theorem so_158 (P : Params) : SupOk P 158 157 := ⟨fun _ => by kernel_rfl, fun _ => by kernel_rfl, fun _ => by kernel_rfl, fun _ => by kernel_rfl, fun _ => by kernel_rfl, fun _ => by kernel_rfl, by kernel_rfl, by kernel_rfl, by kernel_rfl, fun _ => by kernel_rfl, by kernel_rfl, by kernel_rfl, fun _ => by kernel_rfl⟩

theorem listLen_body {M : Model} {A : Around} {E : Value → Shared → Prop} {s : Shared} {a : Addr} {items : Array Value} {Q : Fin → Shared → Prop} (h : SeqAt s.heap a items)
    (hq : ∀ t k, Q (.done (.ret (.int items.size t))) { s with toks := k }) : wpAny M A (Builtin.«list.__len__» ⟨[.ref a], []⟩) Q E s := by
  obtain ⟨o, ho, n, hd⟩ := h
  unfold Builtin.«list.__len__»
  refine wpAny_bind (wpAny_of_eq (a := (.ref a, [])) (by rfl) ?_)
  dsimp only
  unfold seqSize
  refine wpAny_bind (wpAny_bind (wpAny_load ho ?_))
  rw [hd]
  refine wpAny_pure ?_
  unfold retInt
  refine wpAny_bind (wpAny_mkInt (wpAny_pure (hq _ _)))

theorem count_spec {c : Cx} {k : Nat} {A : Around} {s : Shared} {x d : Addr} {items : Array Value} {ep : Nat} {od : Obj} {Q : Value → Shared → Prop} {E : Value → Shared → Prop}
    (I : SInv c s) (R : Room (k + 1) A) (hx : s.heap.get? x = some (accO d items ep)) (hd : s.heap.get? d = some od) (hx2 : 270 ≤ x) (hd2 : 270 ≤ d) (hxd : x ≠ d)
    (h : ∀ t s', Ev c s s' → Q (.int items.size t) s') : wpAny c.M A (call (.ref 218) [.ref x]) Q E s := by
  refine enterMA (mu := []) [(n_self, .ref x)] I R ⟨fun _ h => (nomatch h), .nil⟩ (by walk_at "fn") ?_
  intro L s1 eL B R'
  have hx1 : s1.heap.get? x = some (accO d items ep) := B.keep _ _ (hideAll_get _ hx (by simpa using Bod.notTab x hx2))
  have hd1 : s1.heap.get? d = some od := B.keep _ _ (hideAll_get _ hd (by simpa using Bod.notTab d hd2))
  have J : W.InstAt s1.heap x (accO d items ep) 221 (some od) := ⟨hx1, rfl, rfl, hd1⟩
  refine ks_wpAt_execs_cons ?_
  refine ks_wpAt_Return_some ?_
  refine b_super (gt_len c) (bd_len c) B (so_218 _) rfl J (by kernel_rfl) (by kernel_rfl) ?_
  intro s2 B2 k2
  refine listLen_body ⟨_, k2 _ _ hx1, _, rfl⟩ ?_
  intro t k9
  refine ⟨_, rfl, ?_⟩
  exact h t _ ((B2.toks k9).ev rfl)
end Mine
end
section
namespace Mine
open PySem PySem.W PySem.W.X PyProof.Rows PySem.Calls

noncomputable abbrev acD (P : Params) (t : Tok) (v : Value) : Obj := ⟨.type "dict", none, .dict #[⟨PyData.keyHash P n_initial_size_u, .str n_initial_size_u t, v⟩] 1, #[]⟩
theorem sh_append (P : Params) (t : Tok) (v : Value) : shadowIn (some (acD P t v)) n_append = some false := by kernel_rfl
theorem sh_push (P : Params) (t : Tok) (v : Value) : shadowIn (some (acD P t v)) n_push = some false := by kernel_rfl
theorem sh_pop (P : Params) (t : Tok) (v : Value) : shadowIn (some (acD P t v)) n_pop = some false := by kernel_rfl
theorem sh_pop_from (P : Params) (t : Tok) (v : Value) : shadowIn (some (acD P t v)) n_pop_from = some false := by kernel_rfl
theorem sh_reset (P : Params) (t : Tok) (v : Value) : shadowIn (some (acD P t v)) n_reset = some false := by kernel_rfl
theorem sh_is_onlyws (P : Params) (t : Tok) (v : Value) : shadowIn (some (acD P t v)) n_is_onlyws = some false := by kernel_rfl
theorem sh_part_count (P : Params) (t : Tok) (v : Value) : shadowIn (some (acD P t v)) n_part_count = some false := by kernel_rfl
theorem fi_size (P : Params) (t : Tok) (v : Value) : findObj (KS P) 221 (some (acD P t v)) n_initial_size_u = some (.value v) := by kernel_rfl

theorem listPop_body {c : Cx} {he : Heap} {L : Addr} {m : List (Str × Value)} {mu pre post : List (Addr × Obj)} {s : Shared} {A : Around} {E : Value → Shared → Prop}
    {a : Addr} {cl : Value} {dd : Option Addr} {items : Array Value} {v : Value} {ep : Nat} {sl : Array (Option Value)} {Q : Fin → Shared → Prop} (B : Bod c he L m mu s) (hmu : mu = pre ++ (a, ⟨cl, dd, .seq (items.push v) ep, sl⟩) :: post) (hz : items.size ≤ sizeLine)
    (h : ∀ ep' s', Bod c he L m (pre ++ (a, ⟨cl, dd, .seq items ep', sl⟩) :: post) s' → Q (.done (.ret v)) s') : wpAny c.M A (Builtin.«list.pop» ⟨[.ref a], []⟩) Q E s := by
  have D : s.heap.get? a = some ⟨cl, dd, .seq (items.push v) ep, sl⟩ := B.own (a, ⟨cl, dd, .seq (items.push v) ep, sl⟩) (by rw [hmu]; simp)
  have hs : (seqIndex? (-1) (items.push v).size).bind (fun k => (items.push v)[k]?.map (k, ·)) = some (items.size, v) := by
    have : seqIndex? (-1) (items.push v).size = some items.size := by
      unfold seqIndex?
      rw [Array.size_push]
      simp only [show ((-1 : Int) < 0) from by decide, if_true]
      have e1 : (-1 + ((items.size + 1 : Nat) : Int)) = (items.size : Int) := by lia
      rw [e1]
      rw [if_pos (by simp; lia)]
      simp
    rw [this]
    simp
  have he' : (items.push v).eraseIdxIfInBounds items.size = items := by
    unfold Array.eraseIdxIfInBounds
    rw [dif_pos (by simp)]
    refine Array.ext' ?_
    rw [Array.toList_eraseIdx, Array.toList_push]
    rw [List.eraseIdx_append_of_length_le (by simp)]
    simp
  unfold Builtin.«list.pop»
  refine wpAny_bind (wpAny_of_eq (a := (.ref a, [])) (by rfl) ?_)
  dsimp only
  refine wpAny_bind (wpAny_pure ?_)
  refine KFB.if_not (by decide) ?_
  refine wpAny_bind (wpAny_listItems D rfl ?_)
  refine KFB.if_not (by simp) ?_
  rw [hs]
  dsimp only
  refine wpAny_bind ?_
  unfold Builtin.List.listUpdate
  dsimp only
  refine b_updateSeq B hmu (by rw [he']; exact hz) (fun ep' s' B' => ?_)
  rw [he'] at B'
  exact wpAny_pure (h ep' s' B')

theorem pop_spec {c : Cx} {k : Nat} {A : Around} {s : Shared} {x d : Addr} {items : Array Value} {v : Value} {ep : Nat} {t1 t0 : Tok} {Q : Value → Shared → Prop} {E : Value → Shared → Prop}
    (I : SInv c s) (R : Room (k + 2) A) (H : Has [(x, accO d (items.push v) ep), (d, acD c.w.params t1 (.int 0 t0))] s) (hz : items.size ≤ sizeLine)
    (h : ∀ ep' s', MEv c [(x, accO d (items.push v) ep), (d, acD c.w.params t1 (.int 0 t0))] [(x, accO d items ep'), (d, acD c.w.params t1 (.int 0 t0))] [] s s' → Q v s') :
    wpAny c.M A (call (.ref 181) [.ref x]) Q E s := by
  refine enterMA [(n_self, .ref x)] I R H (by walk_at "fn") ?_
  intro L s1 eL B R'
  refine ks_wpAt_execs_cons ?_
  refine ks_wpAt_If ?_
  refine PySem.wpAt_of_wpAny ?_
  refine wpAny_isTrue_Compare1 ?_
  refine c_attr ?_
  walk_at "nm"
  refine b_method (f := .ref 218) (C := 221) (dx := d) (ox := accO d (items.push v) ep) B (mI 0 rfl) (List.mem_cons_of_mem _ (List.mem_cons_self ..)) rfl rfl rfl (fa_ga _) can_l (fa_gk _) (fa_part_count _) (ft_part_count _) tf_f (sh_part_count _ _ _) ?_
  refine cw_def0 (fo_218 _) (fd_218 _) B.inv ?_
  refine count_spec B.inv R' (B.own (x, accO d (items.push v) ep) (mI 0 rfl)) (B.own (d, acD c.w.params t1 (.int 0 t0)) (mI 1 rfl)) (B.lowM (x, accO d (items.push v) ep) (mI 0 rfl)) (B.lowM (d, acD c.w.params t1 (.int 0 t0)) (mI 1 rfl)) (nI B.nod 0 1 rfl rfl rfl) ?_
  intro t2 s2 E2
  have B2 := B.after E2
  refine b_int B2 ?_
  intro t3 s3 B3
  refine P.eq_int ?_
  refine b_bool ?_
  have hne : (((items.push v).size : Int) == 0) = false := by simp; lia
  rw [hne]
  dsimp only
  refine PySem.wpAt_of_wpAny (wpAny_execs_nil ?_)
  refine ks_wpAt_execs_cons ?_
  refine ks_wpAt_Return_some ?_
  have J : W.InstAt s3.heap x (accO d (items.push v) ep) 221 (some (acD c.w.params t1 (.int 0 t0))) := ⟨B3.own (x, accO d (items.push v) ep) (mI 0 rfl), rfl, rfl, B3.own (d, acD c.w.params t1 (.int 0 t0)) (mI 1 rfl)⟩
  refine b_super (gt_pop c) (bd_pop c) B3 (so_181 _) rfl J (by kernel_rfl) (by kernel_rfl) ?_
  intro s4 B4 k4
  refine listPop_body (pre := []) B4 rfl hz ?_
  intro ep' s5 B5
  refine ⟨_, rfl, ?_⟩
  exact h ep' s5 (Bod.mev (nw := []) (rest := []) B5 rfl (fun _ h => nomatch h))
end Mine
end
section
namespace Mine
open PySem PySem.W PySem.W.X PyProof.Rows PySem.Calls

section
variable {c : Cx} {A : Around} {E : Value → Shared → Prop} {s : Shared} {x : Addr} {ox : Obj} {od : Option Obj}
theorem seqKey_L {k : Value} {name : Str} {Q : Value → Shared → Prop} (X : (KS c.w.params).In s.heap) (I : InstAt s.heap x ox 221 od) (h : Q k s) : wpAny c.M A (sequenceKey (.ref x) k name) Q E s := by
  have hm : mroIn (KS c.w.params) 221 (.type "collections.deque") = some false := by kernel_rfl
  unfold sequenceKey
  refine wpAny_bind (I.type.here ?_)
  dsimp only
  refine wpAny_bind ?_
  simp only [seqItemTypes, List.anyM]
  refine wpAny_bind ((looks_mroIn X hm).here ?_)
  refine wpAny_pure ?_
  exact wpAny_pure h

theorem special_L {name : Str} {id n : String} {b : Builtin} {args : List Value} {Q : Option Value → Shared → Prop} (X : (KS c.w.params).In s.heap) (I : InstAt s.heap x ox 221 od)
    (hf : findIn (KS c.w.params) (.ref 221) name = some (some (.builtin id))) (hb : bindSpecial (.builtin id) (.ref x) = pure (.builtin id, [.ref x]))
    (hk : builtinKind id = some .slot ∨ builtinKind id = some .method) (hs : splitId id = some ("list", n)) (hp : plainId id = true) (he : entryFor table id = some b) (ha : argsOk id ⟨.ref x :: args, []⟩)
    (h : wpAny c.M A.in1 (b ⟨.ref x :: args, []⟩) (fun fin s' => ∃ v, fin = .done (.ret v) ∧ Q (some v) s') E s) :
    wpAny c.M A (callSpecial? (.ref x) name args) Q E s := by
  unfold callSpecial? specialOf
  refine wpAny_bind (wpAny_bind (I.type.here ((looks_findIn X hf).here ?_)))
  dsimp only
  refine wpAny_holding ?_
  rw [hb]
  refine wpAny_bind (wpAny_pure (wpAny_bind (wpAny_call ?_)))
  refine call_L X I (fa_mro _) hk hs hp he ha ?_
  refine wpAny_mono h (fun fin s' hf => ?_) fun _ _ e => e
  obtain ⟨v, rfl, hv⟩ := hf
  exact wpAny_pure hv

theorem getItem_L {iv : Value} {Q : Value → Shared → Prop} (X : (KS c.w.params).In s.heap) (I : InstAt s.heap x ox 221 od)
    (h : wpAny c.M A.in1 (Builtin.«list.__getitem__» ⟨[.ref x, iv], []⟩) (fun fin s' => ∃ v, fin = .done (.ret v) ∧ Q v s') E s) : wpAny c.M A (getItem (.ref x) iv) Q E s := by
  unfold getItem
  refine wpAny_holding ?_
  refine wpAny_bind (seqKey_L X I ?_)
  refine wpAny_bind (special_L (id := "list.__getitem__") (b := Builtin.«list.__getitem__») (n := "__getitem__") X I (by kernel_rfl) (by kernel_rfl) (.inr (by kernel_rfl)) (by kernel_rfl) (by kernel_rfl) (entryFor_of_tree (by kernel_rfl)) (by unfold argsOk; kernel_rfl) ?_)
  refine wpAny_mono h (fun fin s' hf => ?_) fun _ _ e => e
  obtain ⟨v, rfl, hv⟩ := hf
  exact ⟨v, rfl, wpAny_pure hv⟩

theorem setItem_L {iv v : Value} {Q : Unit → Shared → Prop} (X : (KS c.w.params).In s.heap) (I : InstAt s.heap x ox 221 od)
    (h : wpAny c.M A.in1 (Builtin.«list.__setitem__» ⟨[.ref x, iv, v], []⟩) (fun fin s' => ∃ v, fin = .done (.ret v) ∧ Q () s') E s) : wpAny c.M A (setItem (.ref x) iv v) Q E s := by
  unfold setItem
  refine wpAny_holding ?_
  refine wpAny_bind (seqKey_L X I ?_)
  refine wpAny_bind (special_L (id := "list.__setitem__") (b := Builtin.«list.__setitem__») (n := "__setitem__") X I (by kernel_rfl) (by kernel_rfl) (.inl (by kernel_rfl)) (by kernel_rfl) (by kernel_rfl) (entryFor_of_tree (by kernel_rfl)) (by unfold argsOk; kernel_rfl) ?_)
  refine wpAny_mono h (fun fin s' hf => ?_) fun _ _ e => e
  obtain ⟨v, rfl, hv⟩ := hf
  exact ⟨v, rfl, wpAny_pure hv⟩

theorem inPy_L {Q : Bool → Shared → Prop} (X : (KS c.w.params).In s.heap) (I : InstAt s.heap x ox 221 od) (h : Q false s) : wpAny c.M A (getitemInPython (.ref x)) Q E s := by
  have hf : findIn (KS c.w.params) (.ref 221) "__getitem__" = some (some (.builtin "list.__getitem__")) := by kernel_rfl
  unfold getitemInPython specialOf
  exact wpAny_bind (wpAny_bind (I.type.here ((looks_findIn X hf).here (wpAny_pure h))))
end

/-- a subscript of an object of the list class -/
theorem e_subL {c : Cx} {A : Around} {E : Value → Shared → Prop} {s : Shared} {env : Env} {value slice : Expr} {pos : Pos} {Q : Value → Shared → Prop}
    (h : wpAny c.M A (eval value env) (fun o s₁ => wpAny c.M A (eval slice env) (fun iv s₂ => ∃ x ox od, o = .ref x ∧ (KS c.w.params).In s₂.heap ∧ InstAt s₂.heap x ox 221 od ∧
      wpAny c.M A.in1 (Builtin.«list.__getitem__» ⟨[.ref x, iv], []⟩) (fun fin s' => ∃ v, fin = .done (.ret v) ∧ Q v s') E s₂) E s₁) E s) : wpAny c.M A (eval (.Subscript value slice pos) env) Q E s := by
  rw [eval_Subscript]
  refine wpAny_bind (wpAny_mono h (fun o s₁ h₁ => wpAny_bind (wpAny_holding (wpAny_mono h₁ (fun iv s₂ h₂ => wpAny_bind (wpAny_standAt ?_)) fun _ _ e => e))) fun _ _ e => e)
  obtain ⟨x, ox, od, rfl, X, I, h₃⟩ := h₂
  refine wpAny_bind (inPy_L X I ?_)
  have fin : wpAny c.M A (getItem (.ref x) iv) (fun r s₃ => wpAny c.M A (letTemporaryGo value (.ref x) r >>= fun _ => pure r) Q E s₃) E s₂ := by
    refine getItem_L X I (wpAny_mono h₃ (fun f s' hf => ?_) fun _ _ e => e)
    obtain ⟨v, rfl, hv⟩ := hf
    exact ⟨v, rfl, wpAny_bind (wpAny_letTemporaryGo (wpAny_pure hv))⟩
  unfold subscripted
  split
  · exact wpAny_bind (wpAny_operating fin)
  · rename_i q; cases q
  · exact wpAny_bind (wpAny_operating fin)

section
variable {c : Cx} {A : Around} {E : Value → Shared → Prop} {s : Shared} {l sl : Addr} {items : Array Value}
theorem parts_body {vl vu : Value} {lo hi : Option Int} {Q : Value × Value × Value → Shared → Prop} (hs : s.heap.IsSliceOf sl vl vu .none) (pl : IsPart vl lo) (pu : IsPart vu hi) (h : Q (rawPart lo, rawPart hi, rawPart none) s) :
    wpAny c.M A (Builtin.List.listSliceParts (.ref sl)) Q E s := by
  obtain ⟨os, hos, hcs, hds⟩ := id hs
  rw [listSliceParts_eq]
  refine wpAny_bind (wpAny_field hos hds (x := .none) rfl (wpAny_bind (wpAny_listPart .none ?_)))
  rw [if_neg (show ¬ ((rawPart none == rawInt 0) = true) from Bool.false_ne_true)]
  refine wpAny_bind (wpAny_field hos hds (x := vl) rfl (wpAny_bind (wpAny_listPart pl ?_)))
  exact wpAny_bind (wpAny_field hos hds (x := vu) rfl (wpAny_bind (wpAny_listPart pu (wpAny_pure h))))
theorem noSub {Q : Option Int → Shared → Prop} {vl vu : Value} (hs : s.heap.IsSliceOf sl vl vu .none) (h : Q none s) : wpAny c.M A (Builtin.List.listSubscript? (.ref sl)) Q E s := by
  obtain ⟨os, hos, hcs, hds⟩ := id hs
  have hTs : s.TypeIs (.ref sl) "slice" := ⟨os, hos, hcs⟩
  unfold Builtin.List.listSubscript?
  refine wpAny_bind (wpAny_specialOf hTs slice_no_index ?_)
  simp only [Option.isNone_none, if_true]
  exact wpAny_pure h

theorem getSlice_body {vl vu : Value} {lo hi : Option Int} {Q : Fin → Shared → Prop} (hl : SeqAt s.heap l items) (hs : s.heap.IsSliceOf sl vl vu .none) (pl : IsPart vl lo) (pu : IsPart vu hi)
    (h : Q (.done (.ret (.ref s.heap.objs.size))) { s with heap := s.heap.push { cls := .type "list", data := .seq (slicePick items lo hi none) } }) (hsz : items.size ≤ sizeLine) :
    wpAny c.M A (Builtin.«list.__getitem__» ⟨[.ref l, .ref sl], []⟩) Q E s := by
  obtain ⟨o, ho, n, hd⟩ := hl
  obtain ⟨os, hos, hcs, hds⟩ := id hs
  have hTs : s.TypeIs (.ref sl) "slice" := ⟨os, hos, hcs⟩
  unfold Builtin.«list.__getitem__»
  refine wpAny_bind (wpAny_of_eq (a := (.ref l, .ref sl)) (by rfl) ?_)
  dsimp only
  refine wpAny_bind (noSub hs ?_)
  refine wpAny_bind (wpAny_typeOf hTs ?_)
  refine KFB.if_not (by decide) ?_
  refine wpAny_bind (parts_body hs pl pu ?_)
  refine wpAny_bind (wpAny_listItems ho hd ?_)
  refine wpAny_bind (wpAny_of_eq (sliceIndices_raw lo hi none items.size (by simp)) ?_)
  exact wpAny_bind (wpAny_newObj_type (wpAny_pure h) (Nat.le_trans (slicePick_size_le items lo hi none) hsz))

theorem getInt_body {k : Int} {j : Nat} {t : Tok} {v : Value} {Q : Fin → Shared → Prop} (hl : SeqAt s.heap l items) (hk : k = Int.ofNat j) (hj : items[j]? = some v) (hz : items.size ≤ sizeLine) (h : Q (.done (.ret v)) s) :
    wpAny c.M A (Builtin.«list.__getitem__» ⟨[.ref l, .int k t], []⟩) Q E s := by
  obtain ⟨o, ho, n, hd⟩ := hl
  have hlt : j < items.size := (Array.getElem?_eq_some_iff.mp hj).1
  have hfit : Builtin.List.listFitsIndex k = true := by
    rw [sizeLine_val] at hz
    unfold Builtin.List.listFitsIndex
    subst hk
    simp only [Bool.and_eq_true, decide_eq_true_eq]
    constructor
    · have : (0 : Int) ≤ Int.ofNat j := Int.natCast_nonneg j
      lia
    · have : (Int.ofNat j) < 16777216 := by show (j : Int) < _; lia
      lia
  unfold Builtin.«list.__getitem__»
  refine wpAny_bind (wpAny_of_eq (a := (.ref l, .int k t)) (by rfl) ?_)
  dsimp only
  refine wpAny_bind ?_
  unfold Builtin.List.listSubscript?
  refine wpAny_bind (wpAny_specialOf (T := "int") (typeIs_int s k t) int_index ?_)
  simp only [Option.isNone_some, Bool.false_eq_true, if_false]
  refine wpAny_bind (wpAny_of_eq (a := k) rfl ?_)
  simp only [hfit, Bool.not_true, Bool.false_eq_true, if_false]
  refine wpAny_pure ?_
  dsimp only
  subst hk
  refine wpAny_bind ?_
  refine wpAny_bind ?_
  unfold seqItemAt
  refine wpAny_bind (wpAny_load ho ?_)
  rw [hd]
  refine wpAny_pure ?_
  simp only [hj, Option.map_some]
  exact wpAny_pure (wpAny_pure h)
end
end Mine
end
section
namespace Mine
open PySem PySem.W PySem.W.X PyProof.Rows PySem.Calls

section
variable {c : Cx} {he : Heap} {L : Addr} {m : List (Str × Value)} {mu pre post : List (Addr × Obj)} {s : Shared} {A : Around} {E : Value → Shared → Prop}
    {a sl v : Addr} {cl : Value} {dd : Option Addr} {items new : Array Value} {ep : Nat} {sls : Array (Option Value)} {Q : Fin → Shared → Prop}
theorem setSlice_body {vl vu : Value} {lo hi : Option Int} {st en : Int} {fin : Array Value} (B : Bod c he L m mu s) (hmu : mu = pre ++ (a, ⟨cl, dd, .seq items ep, sls⟩) :: post)
    (hs : s.heap.IsSliceOf sl vl vu .none) (pl : IsPart vl lo) (pu : IsPart vu hi) (hv : s.heap.IsList v new) (hva : a ≠ v) (hz : items.size + new.size ≤ sizeLine)
    (hb : sliceBounds lo hi none items.size = (st, en, 1)) (hfin : items.extract 0 st.toNat ++ new ++ items.extract (max st en).toNat items.size = fin) (hzf : fin.size ≤ sizeLine)
    (h : ∀ ep' s', Bod c he L m (pre ++ (a, ⟨cl, dd, .seq fin ep', sls⟩) :: post) s' → Q (.done (.ret .none)) s') :
    wpAny c.M A (Builtin.«list.__setitem__» ⟨[.ref a, .ref sl, .ref v], []⟩) Q E s := by
  have D : s.heap.get? a = some ⟨cl, dd, .seq items ep, sls⟩ := B.own (a, ⟨cl, dd, .seq items ep, sls⟩) (by rw [hmu]; simp)
  obtain ⟨os, hos, hcs, hds⟩ := id hs
  have hTs : s.TypeIs (.ref sl) "slice" := ⟨os, hos, hcs⟩
  obtain ⟨ov, hov, hcv, nv, hdv⟩ := id hv
  have hTv : s.TypeIs (.ref v) "list" := ⟨ov, hov, hcv⟩
  have hsame : Builtin.List.listSameRef (.ref a) (.ref v) = false := by
    unfold Builtin.List.listSameRef
    simp [hva]
  unfold Builtin.«list.__setitem__»
  refine wpAny_bind (wpAny_of_eq (a := (.ref a, [.ref sl, .ref v])) (by rfl) ?_)
  dsimp only
  refine wpAny_bind (noSub hs ?_)
  refine wpAny_bind (wpAny_typeOf hTs ?_)
  refine KFB.if_not (by decide) ?_
  refine wpAny_bind (parts_body hs pl pu ?_)
  dsimp only
  refine KFB.if_not hsame ?_
  refine wpAny_bind ?_
  unfold Builtin.List.listAllItems
  refine wpAny_bind (wpAny_typeOf hTv ?_)
  refine KFB.if_so (by decide) ?_
  refine wpAny_listItems hov hdv ?_
  refine wpAny_bind (wpAny_listItems D rfl ?_)
  refine wpAny_bind (wpAny_of_eq (sliceIndices_raw lo hi none items.size (by simp)) ?_)
  rw [hb]
  dsimp only
  refine KFB.if_so (by decide) ?_
  refine wpAny_bind (wpAny_rule ?_)
  refine KFB.if_not (by unfold Builtin.List.listTooLong; exact decide_eq_false (Nat.not_lt.mpr hz)) ?_
  refine wpAny_bind ?_
  unfold Builtin.List.listUpdate
  dsimp only
  refine b_updateSeq B hmu (by rw [hfin]; exact hzf) (fun ep' s' B' => ?_)
  rw [hfin] at B'
  refine wpAny_bind (wpAny_letGo ?_)
  exact wpAny_bind (wpAny_pure (wpAny_pure (h ep' s' B')))
end
end Mine
end
section
namespace Mine
open PySem PySem.W PySem.W.X PyProof.Rows PySem.Calls


/-- a slice display without a step -/
theorem e_slice {c : Cx} {A : Around} {E : Value → Shared → Prop} {s : Shared} {env : Env} {lower upper : Option Expr} {p : Pos} {Q : Value → Shared → Prop}
    (h : wpAny c.M A (evalPart lower env) (fun l s₁ => wpAny c.M A (evalPart upper env) (fun u s₂ => ∃ he L m mu, Bod c he L m mu s₂ ∧ ∀ a s', Bod c he L m mu s' → Kept s₂.heap s'.heap → s'.heap.IsSliceOf a l u .none → Q (.ref a) s') E s₁) E s) :
    wpAny c.M A (eval (.Slice lower upper none p) env) Q E s := by
  refine wpAny_Slice (wpAny_mono h (fun l s₁ h₁ => wpAny_mono h₁ (fun u s₂ h₂ => ?_) fun _ _ e => e) fun _ _ e => e)
  rw [evalPart_none]
  refine hG fun zP zK => ?_
  obtain ⟨he, L, m, mu, B, y⟩ := h₂
  refine zK ?_
  exact wpAny_pure (y _ _ (B.push _ s₂.toks) (fun b o e => Heap.get?_push_of_some _ e) (Heap.IsSliceOf.new ..))

theorem ext_take (items : Array Value) (j : Nat) : items.extract 0 j = (items.toList.take j).toArray := by
  refine Array.ext' ?_
  simp [Array.toList_extract]

theorem popfrom_spec {c : Cx} {k : Nat} {A : Around} {s : Shared} {x d : Addr} {items : Array Value} {ep j : Nat} {od : Obj} {t : Tok} {Q : Value → Shared → Prop} {E : Value → Shared → Prop}
    (I : SInv c s) (R : Room (k + 1) A) (H : Has [(x, accO d items ep), (d, od)] s) (hz : items.size ≤ sizeLine) (hj : j ≤ items.size)
    (h : ∀ p ep' s', MEv c [(x, accO d items ep), (d, od)] [(x, accO d (items.toList.take j).toArray ep'), (d, od)] [(p, lstO (items.toList.drop j).toArray 0)] s s' → Q (.ref p) s') :
    wpAny c.M A (call (.ref 173) [.ref x, .int j t]) Q E s := by
  refine enterM [(n_i, .int j t), (n_self, .ref x)] I R H (by walk_at "fnd") ?_
  intro L s1 eL B R'
  refine sK ?_
  refine wpAny_Assign_Name ?_
  refine e_subL ?_
  walk_at "nm"
  refine e_slice ?_
  rw [evalPart_some, evalPart_none]
  walk_at "nm"
  refine wpAny_pure ?_
  refine ⟨_, _, _, _, B, ?_⟩
  intro a2 s2 B2 k2 hs2
  have hx2 := B2.own (x, accO d items ep) (mI 0 rfl)
  refine ⟨x, _, some od, rfl, B2.inv.kin, ⟨hx2, rfl, rfl, B2.own (d, od) (mI 1 rfl)⟩, ?_⟩
  refine getSlice_body ⟨_, hx2, _, rfl⟩ hs2 (.int _ _) .none ?_ hz
  refine ⟨_, rfl, ?_⟩
  rw [slicePick_from items j hj]
  have B3 := B2.alloc (lstO (items.toList.drop j).toArray 0) s2.toks rfl
  have hp : s.heap.objs.size ≤ s2.heap.objs.size := by have := B2.size; rwa [hideAll_size] at this
  generalize s2.heap.objs.size = p at B3 hp ⊢
  refine b_store B3 (envF_locals _ _ _) (by kernel_rfl) (by kernel_rfl) ?_
  intro s4 B4
  dsimp only [seqK]
  refine sK ?_
  refine wpAny_Assign_Subscript ?_
  refine e_list ?_
  refine a_nil ?_
  refine ⟨by walk_at "sz", _, _, _, _, B4, ?_⟩
  intro q s5 B5 hq
  walk_at "nm"
  refine e_slice ?_
  rw [evalPart_some, evalPart_none]
  walk_at "nm"
  refine wpAny_pure ?_
  refine ⟨_, _, _, _, B5, ?_⟩
  intro a6 s6 B6 k6 hs6
  have hx6 := B6.own (x, accO d items ep) (mI 2 rfl)
  refine setItem_L (od := some od) B6.inv.kin ⟨hx6, rfl, rfl, B6.own (d, od) (mI 3 rfl)⟩ ?_
  refine setSlice_body (pre := [(q, lstO #[] 0), (p, lstO (items.toList.drop j).toArray 0)]) (post := [(d, od)]) (new := #[]) (lo := some j) (hi := none) (st := j) (en := items.size) (fin := (items.toList.take j).toArray) B6 rfl hs6 (.int _ _) .none ⟨_, B6.own (q, lstO #[] 0) (mI 0 rfl), rfl, _, rfl⟩ ?_ hz ?_ ?_ ?_ ?_
  · exact nI B6.nod 2 0 rfl rfl rfl
  · unfold sliceBounds; simp; lia
  · rw [Array.append_empty]
    have : (max (j : Int) items.size).toNat = items.size := by lia
    rw [this, Int.toNat_natCast, ext_take]; simp
  · simp; lia
  intro ep' s7 B7
  refine ⟨_, rfl, ?_⟩
  dsimp only [seqK]
  refine sK ?_
  refine wpAny_Return_some ?_
  walk_at "nm"
  refine h p ep' s7 (Bod.mev (nw := [(p, lstO (items.toList.drop j).toArray 0)]) (rest := [(q, lstO #[] 0)]) (B7.perm ?_) rfl ?_)
  · show List.Perm [(q, lstO #[] 0), (p, lstO (items.toList.drop j).toArray 0), (x, accO d (items.toList.take j).toArray ep'), (d, od)] [(x, accO d (items.toList.take j).toArray ep'), (d, od), (p, lstO (items.toList.drop j).toArray 0), (q, lstO #[] 0)]
    exact List.perm_append_comm (l₁ := [(q, lstO #[] 0), (p, lstO (items.toList.drop j).toArray 0)]) |>.trans (List.Perm.cons _ (List.Perm.cons _ (List.Perm.swap _ _ _)))
  · intro r hr
    rw [List.mem_singleton.mp hr]; exact hp
end Mine
end
section
namespace Mine
open PySem PySem.W PySem.W.X PyProof.Rows PySem.Calls

theorem cd_acc (P : Params) : ∃ cd, clsIn (KS P) 221 = some cd ∧ cd.hasDict = true ∧ cd.mro = [.ref 221, .type "list", .type "object"] := by
  have h : (clsIn (KS P) 221).map (fun cd => (cd.hasDict, cd.mro)) = some (true, [.ref 221, .type "list", .type "object"]) := by kernel_rfl
  obtain ⟨cd, e1, e2⟩ := Option.map_eq_some_iff.mp h
  exact ⟨cd, e1, congrArg (·.1) e2, congrArg (·.2) e2⟩
theorem fa_size (P : Params) : findIn (KS P) (.ref 221) n_initial_size_u = some none := by kernel_rfl

section
variable {c : Cx} {he : Heap} {L : Addr} {m : List (Str × Value)} {mu pre post : List (Addr × Obj)} {s : Shared} {A : Around} {E : Value → Shared → Prop} {x d : Addr} {items : Array Value} {ep : Nat} {t1 : Tok} {v0 v : Value}
theorem set_size {Q : Unit → Shared → Prop} (B : Bod c he L m mu s) (hmu : mu = pre ++ (d, acD c.w.params t1 v0) :: post) (hx : (x, accO d items ep) ∈ mu)
    (h : ∀ s', Bod c he L m (pre ++ (d, acD c.w.params t1 v) :: post) s' → Q () s') : wpAny c.M A (setAttr (.ref x) n_initial_size_u v) Q E s := by
  obtain ⟨cd, e1, e2, e3⟩ := cd_acc c.w.params
  refine b_setattr (C := 221) (cd := cd) (od' := fun _ => acD c.w.params t1 v) (es := fun _ => [⟨PyData.keyHash c.w.params n_initial_size_u, .str n_initial_size_u t1, v⟩]) (n := 1) B hmu hx rfl rfl rfl e1 e2 (by rw [e3]; rfl) (by rw [e3]; decide) (by rw [e3]; exact refuse_acc x) (fa_set _) (fa_size _) (by kernel_rfl) (fun t => by kernel_rfl) (fun t => rfl) (fun t => Nat.le_of_ble_eq_true rfl) ?_
  exact fun t s' B' => h s' B'
theorem set_size0 {Q : Unit → Shared → Prop} (B : Bod c he L m mu s) (hmu : mu = pre ++ (d, emptyDict) :: post) (hx : (x, accO d items ep) ∈ mu)
    (h : ∀ t s', Bod c he L m (pre ++ (d, acD c.w.params t v) :: post) s' → Q () s') : wpAny c.M A (setAttr (.ref x) n_initial_size_u v) Q E s := by
  obtain ⟨cd, e1, e2, e3⟩ := cd_acc c.w.params
  refine b_setattr (C := 221) (cd := cd) (od' := fun t => acD c.w.params t v) (es := fun t => [⟨PyData.keyHash c.w.params n_initial_size_u, .str n_initial_size_u t, v⟩]) (n := 1) B hmu hx rfl rfl rfl e1 e2 (by rw [e3]; rfl) (by rw [e3]; decide) (by rw [e3]; exact refuse_acc x) (fa_set _) (fa_size _) (by kernel_rfl) (fun t => by kernel_rfl) (fun t => rfl) (fun t => Nat.le_of_ble_eq_true rfl) ?_
  exact h
end

/-- self[:] = startval; self._initial_size = 0 -/
theorem reset_tail {c : Cx} {he : Heap} {L : Addr} {m : List (Str × Value)} {rest : List (Addr × Obj)} {s : Shared} {A : Around} {x d p : Addr} {items new : Array Value} {ep : Nat} {t1 : Tok} {v0 : Value} {Q : Flow → Shared → Prop}
    (B : Bod c he L m ((x, accO d items ep) :: (d, acD c.w.params t1 v0) :: rest) s) (hp : s.heap.IsList p new) (hxp : x ≠ p) (hz : items.size + new.size ≤ sizeLine)
    (hs : m.lookup n_startval = some (.ref p)) (hx : m.lookup n_self = some (.ref x)) (h : ∀ t0 ep' s', Bod c he L m ((x, accO d new ep') :: (d, acD c.w.params t1 (.int 0 t0)) :: rest) s' → Q .next s') :
    wpAny c.M A (execs ((bodyF c.w.params 203).drop 1) (envF c.w.params 203 L)) Q (fun _ _ => False) s := by
  refine sK ?_
  refine wpAny_Assign_Subscript ?_
  refine b_name B (envF_locals _ _ _) hs (by kernel_rfl) (by kernel_rfl) (by kernel_rfl) ?_
  refine b_name B (envF_locals _ _ _) hx (by kernel_rfl) (by kernel_rfl) (by kernel_rfl) ?_
  refine e_slice ?_
  rw [evalPart_none]
  refine wpAny_pure ?_
  refine wpAny_pure ?_
  refine ⟨_, _, _, _, B, ?_⟩
  intro a2 s2 B2 k2 hs2
  have hx2 := B2.own (x, accO d items ep) (mI 0 rfl)
  refine setItem_L (od := some (acD c.w.params t1 v0)) B2.inv.kin ⟨hx2, rfl, rfl, B2.own (d, acD c.w.params t1 v0) (mI 1 rfl)⟩ ?_
  refine setSlice_body (pre := []) (new := new) (lo := none) (hi := none) (st := 0) (en := items.size) (fin := new) B2 rfl hs2 .none .none (let ⟨o, e, r⟩ := hp; ⟨o, k2 _ _ e, r⟩) hxp hz ?_ ?_ (by lia) ?_
  · unfold sliceBounds; simp
  · have : (max (0 : Int) items.size).toNat = items.size := by lia
    rw [this]; simp
  intro ep' s3 B3
  refine ⟨_, rfl, ?_⟩
  dsimp only [seqK]
  refine sK ?_
  refine plainObj_wpAny_Assign_Attribute ?_
  refine b_int B3 ?_
  intro t0 s4 B4
  refine b_name B4 (envF_locals _ _ _) hx (by kernel_rfl) (by kernel_rfl) (by kernel_rfl) ?_
  refine set_size (pre := [(x, accO d new ep')]) B4 rfl (List.mem_cons_self ..) ?_
  intro s5 B5
  dsimp only [seqK]
  refine wpAny_execs_nil ?_
  exact h t0 ep' s5 B5

theorem reset_spec {c : Cx} {k : Nat} {A : Around} {s : Shared} {x d p : Addr} {items new : Array Value} {ep ep2 : Nat} {t1 : Tok} {v0 : Value} {Q : Value → Shared → Prop} {E : Value → Shared → Prop}
    (I : SInv c s) (R : Room (k + 1) A) (H : Has [(x, accO d items ep), (d, acD c.w.params t1 v0), (p, lstO new ep2)] s) (hz : items.size + new.size ≤ sizeLine)
    (h : ∀ t0 ep' s', MEv c [(x, accO d items ep), (d, acD c.w.params t1 v0), (p, lstO new ep2)] [(x, accO d new ep'), (d, acD c.w.params t1 (.int 0 t0)), (p, lstO new ep2)] [] s s' → Q .none s') :
    wpAny c.M A (call (.ref 203) [.ref x, .ref p]) Q E s := by
  refine enterM [(n_startval, .ref p), (n_self, .ref x)] I R H (by walk_at "fnd") ?_
  intro L s1 eL B R'
  refine sK ?_
  refine wpAny_If ?_
  refine wpAny_isTrue_Compare1 ?_
  walk_at "nm"
  refine wpAny_Constant_none ?_
  refine is_ref_none ?_
  refine b_bool ?_
  dsimp only [seqK]
  refine wpAny_execs_nil ?_
  dsimp only [seqK]
  refine reset_tail B ⟨_, B.own (p, lstO new ep2) (mI 2 rfl), rfl, _, rfl⟩ (nI B.nod 0 2 rfl rfl rfl) hz rfl rfl ?_
  intro t0 ep' s5 B5
  exact h t0 ep' s5 (Bod.mev (nw := []) (rest := []) B5 rfl (fun _ h => nomatch h))

theorem reset0_spec {c : Cx} {k : Nat} {A : Around} {s : Shared} {x d : Addr} {items : Array Value} {ep : Nat} {t1 : Tok} {v0 : Value} {Q : Value → Shared → Prop} {E : Value → Shared → Prop}
    (I : SInv c s) (R : Room (k + 1) A) (H : Has [(x, accO d items ep), (d, acD c.w.params t1 v0)] s) (hz : items.size ≤ sizeLine)
    (h : ∀ t0 ep' s', MEv c [(x, accO d items ep), (d, acD c.w.params t1 v0)] [(x, accO d #[] ep'), (d, acD c.w.params t1 (.int 0 t0))] [] s s' → Q .none s') :
    wpAny c.M A (call (.ref 203) [.ref x]) Q E s := by
  refine enterM [(n_startval, .none), (n_self, .ref x)] I R H (by walk_at "fnd") ?_
  intro L s1 eL B R'
  refine sK ?_
  refine wpAny_If ?_
  refine wpAny_isTrue_Compare1 ?_
  walk_at "nm"
  refine wpAny_Constant_none ?_
  refine wpAny_is_self rfl ?_
  refine b_bool ?_
  dsimp only [seqK]
  refine sK ?_
  refine wpAny_Assign_Name ?_
  refine e_list ?_
  refine a_nil ?_
  refine ⟨by walk_at "sz", _, _, _, _, B, ?_⟩
  intro q s2 B2 hq
  refine b_store B2 (envF_locals _ _ _) (by kernel_rfl) (by kernel_rfl) ?_
  intro s3 B3
  dsimp only [seqK]
  refine wpAny_execs_nil ?_
  dsimp only [seqK]
  have B4 := B3.perm (mu' := [(x, accO d items ep), (d, acD c.w.params t1 v0), (q, lstO #[] 0)]) ((List.Perm.swap _ _ _).trans ((List.Perm.swap _ _ _).cons _))
  refine reset_tail B4 ⟨_, B4.own (q, lstO #[] 0) (mI 2 rfl), rfl, _, rfl⟩ (nI B4.nod 0 2 rfl rfl rfl) hz rfl rfl ?_
  intro t0 ep' s5 B5
  exact h t0 ep' s5 (Bod.mev (nw := []) (rest := [(q, lstO #[] 0)]) B5 rfl (fun _ h => nomatch h))
end Mine
end
section
namespace Mine
open PySem PySem.W PySem.W.X PyProof.Rows PySem.Calls

theorem Room.in1 {k : Nat} {A : Around} (R : Room (k + 1) A) : Room k A.in1 := by
  obtain ⟨a, b, d, e, g⟩ := R
  refine ⟨a, ?_, ?_, e, g⟩
  · show A.depth + k ≤ 690; lia
  · show A.units + 1 + 100 * k ≤ 9000; lia

/-- an accumulator with its parts, in the heap -/
structure AccAt (c : Cx) (h : Heap) (x d : Addr) (items : Array Value) (ep : Nat) (t1 t0 : Tok) (ps : List (Str × Str)) : Prop where
  hx : h.get? x = some (accO d items ep)
  hd : h.get? d = some (acD c.w.params t1 (.int 0 t0))
  lx : 270 ≤ x
  ld : 270 ≤ d
  ps : PartsAt h items ps

section
variable {c : Cx} {k : Nat} {A : Around} {E : Value → Shared → Prop} {s : Shared} {x d : Addr} {items : Array Value} {ep : Nat} {t1 t0 : Tok} {ps : List (Str × Str)}
theorem AccAt.inst {h : Heap} (a : AccAt c h x d items ep t1 t0 ps) : W.InstAt h x (accO d items ep) 221 (some (acD c.w.params t1 (.int 0 t0))) := ⟨a.hx, rfl, rfl, a.hd⟩
theorem tot_lt (ps : List (Str × Str)) (hz : ∀ p ∈ ps, p.1.length ≤ 10000 ∧ p.2.length ≤ 10000) : 0 ≤ tot ps ∧ tot ps ≤ 20000 * ps.length := by
  induction ps with
  | nil => exact ⟨Int.le_refl _, Int.le_refl _⟩
  | cons p r ih =>
    have h1 := hz p (List.mem_cons_self ..)
    have h2 := ih fun q hq => hz q (List.mem_cons_of_mem _ hq)
    unfold tot at h2 ⊢
    simp only [List.map_cons, List.sum_cons, List.length_cons]
    lia

theorem len_body {Q : Fin → Shared → Prop} (I : SInv c s) (R : Room (k + 1) A) (a : AccAt c s.heap x d items ep t1 t0 ps) (hz : ∀ p ∈ ps, p.1.length ≤ 10000 ∧ p.2.length ≤ 10000) (hn : ps.length ≤ 100)
    (h : ∀ t s', Ev c s s' → Q (.done (.ret (.int (tot ps) t))) s') : wpAny c.M A (Builtin.«len» ⟨[.ref x], []⟩) Q E s := by
  unfold Builtin.«len»
  refine wpAny_bind (m := oneArg "len" _) (wpAny_pure ?_)
  refine wpAny_bind (m := callSpecial? (.ref x) (Str.ofString "__len__")) (special_fn (f := 188) I.kin a.inst (by kernel_rfl) (by kernel_rfl) ?_)
  refine len_spec I R a.hx a.hd a.lx a.ld a.ps (fi_size _ _ _) (fun p hp => by have := hz p hp; lia) ?_
  intro t s' Ev1
  have hb := tot_lt ps hz
  refine wpAny_bind (wpAny_holding (wpAny_pure ?_))
  refine wpAny_bind (wpAny_letGo ?_)
  show wpAny _ _ (if tot ps < 0 then _ else _) _ _ _
  rw [if_neg (by lia)]
  show wpAny _ _ (if tot ps ≥ 2 ^ 63 then _ else _) _ _ _
  rw [if_neg (by lia)]
  exact wpAny_bind (wpAny_mkInt (wpAny_pure (h _ _ ⟨Ev1.inv.toks _, Ev1.keep, Ev1.size⟩)))

theorem len_acc {Q : Value → Shared → Prop} (I : SInv c s) (R : Room (k + 2) A) (a : AccAt c s.heap x d items ep t1 t0 ps) (hz : ∀ p ∈ ps, p.1.length ≤ 10000 ∧ p.2.length ≤ 10000) (hn : ps.length ≤ 100)
    (h : ∀ t s', Ev c s s' → Q (.int (tot ps) t) s') : wpAny c.M A (call (.builtin "len") [.ref x]) Q E s := by
  refine Calls.call_function_entry kind_len plain_len entry_len (args_len1 _) ?_
  exact len_body I R.in1 a hz hn fun t s' e => ⟨_, rfl, h t s' e⟩

theorem str_acc {Q : Value → Shared → Prop} (I : SInv c s) (R : Room (k + 3) A) (a : AccAt c s.heap x d items ep t1 t0 ps) (hz : ∀ p ∈ ps, p.1.length ≤ 10000 ∧ p.2.length ≤ 10000) (hn : ps.length ≤ 100)
    (h : ∀ t s', Ev c s s' → Q (.str (lineOf ps) t) s') : wpAny c.M A (call (.type "str") [.ref x]) Q E s := by
  refine callType_codes (T := "str") (Bi := Builtin.«object.__init__») (Q₁ := fun r s₁ => ∃ y u, r = .str y u ∧ Q r s₁) PySem.F.called_str (PySem.F.typeCall_str_1 _) PySem.F.entry_object_init ?_ ?_
  · refine codeAny_of_tree ?_
    show wpAny _ A.in1.in1 (do checkBuiltinCall "str.__new__" ⟨[.type "str", .ref x], []⟩; again (.builtin "str.__new__" ⟨[.type "str", .ref x], []⟩)) _ _ s
    refine wpAny_bind (wpAny_of_eq (PySem.F.newCall_str_1 _) (wpAny_pure ⟨plainId_quiet (by decide +kernel) _, codeAny_builtin PySem.F.entry_str_new ?_⟩))
    rw [Around.under_plainId (by decide +kernel) _]
    rw [str_new_tree]
    refine wpAny_bind (wpAny_pure ?_)
    refine wpAny_bind (wpAny_of_eq isSubtype_str_str ?_)
    have key : wpAny c.M A.in1.in1 (PySem.Builtin.Str.strOf (.ref x)) (fun r s₁ => ∃ y u, r = .str y u ∧ Q r s₁) E s := by
      unfold PySem.Builtin.Str.strOf
      rw [show PySem.Builtin.Str.isExactStr (.ref x) = false from rfl]
      refine wpAny_bind (m := cRoomFor _ _) (wpAny_cRoomFor R.in1.in1.cl ?_)
      refine wpAny_bind (m := callSpecial? (.ref x) (Str.ofString "__str__")) (special_fn (f := 195) I.kin a.inst (by kernel_rfl) (by kernel_rfl) ?_)
      refine str_spec I R.in1.in1 a.hx a.hd a.lx a.ld a.ps hz hn ?_
      intro t s' Ev1
      exact wpAny_pure ⟨_, _, rfl, h _ _ Ev1⟩
    exact wpAny_bind (wpAny_mono key (fun r s₁ hr => wpAny_pure hr) fun _ _ y => y)
  · rintro obj s₁ ⟨y, u, rfl, hq⟩
    exact ⟨typeIs_str _ _ _, PySem.F.args_object_init_2 _ _, object_init_meets PySem.F.called_str.init.lookup PySem.F.called_str.made (by decide) _ _ A.in1 _ s₁ ⟨typeIs_str _ _ _, rfl, hq⟩⟩

theorem truth_acc {Q : Bool → Shared → Prop} (I : SInv c s) (R : Room (k + 2) A) (a : AccAt c s.heap x d items ep t1 t0 ps) (hz : ∀ p ∈ ps, p.1.length ≤ 10000 ∧ p.2.length ≤ 10000) (hn : ps.length ≤ 100)
    (h : ∀ s', Ev c s s' → Q (tot ps != 0) s') : wpAny c.M A (truthy (.ref x)) Q E s := by
  have hb0 : findIn (KS c.w.params) (.ref 221) "__bool__" = some none := by kernel_rfl
  have hl0 : findIn (KS c.w.params) (.ref 221) "__len__" = some (some (.ref 188)) := by kernel_rfl
  unfold truthy
  dsimp only
  unfold callSpecial? specialOf
  refine wpAny_bind (wpAny_bind (wpAny_bind (a.inst.type.here ((looks_findIn I.kin hb0).here (wpAny_pure ?_)))))
  refine wpAny_bind (wpAny_bind (a.inst.type.here ((looks_findIn I.kin hl0).here ?_)))
  rw [if_neg (by decide)]
  refine wpAny_bind (wpAny_runValue (codeAny_builtin entry_len ?_))
  rw [Around.under_plainId plain_len _]
  refine len_body I R.in1 a hz hn fun t s' e => ?_
  exact wpAny_pure (h s' e)
end
end Mine
end
section
namespace Mine
open PySem PySem.W PySem.W.X PyProof.Rows PySem.Calls

/-- a method call on a call's result -/
theorem c_attrC {prog : Program} {w : World} {A : Around} {E : Value → Shared → Prop} {s : Shared} {env : Env} {g e : Expr} {r : List Expr} {ks : List Keyword} {p : Pos} {name : Str} {apos pos : Pos} {args : List Expr} {Q : Value → Shared → Prop}
    (h : wpAny (model prog w) A (eval (.Call g (e :: r) ks p) env) (fun ov s₁ => wpAny (model prog w) A (getMethod ov name (do return (← importBound (.Call g (e :: r) ks p) env).getD true)) (fun r s₂ => wpAny (model prog w) A (callWith pos r.1 r.2 (backTo pos (starEach args env)) []) Q E s₂) E s₁) E s)
    (hst : noStars args = true := by rfl) (hn : Nat.blt args.length 30 = true := by rfl) (hline : (apos.endLine == pos.line) = true := by rfl) :
    wpAny (model prog w) A (eval (.Call (.Attribute (.Call g (e :: r) ks p) name apos) args [] pos) env) Q E s := by
  refine call_attr (by cases g <;> rfl) ?_ hline h
  have : args.length < 30 := Nat.le_of_ble_eq_true hn
  rw [backTo_all hst]
  show (true && decide (args.length + 0 + 0 < 30)) = true
  rw [decide_eq_true (by omega)]; rfl

theorem AccAt.move {c : Cx} {h h' : Heap} {x d : Addr} {items : Array Value} {ep : Nat} {t1 t0 : Tok} {ps : List (Str × Str)} (a : AccAt c h x d items ep t1 t0 ps) (k : ∀ b o, h.get? b = some o → 270 ≤ b → h'.get? b = some o) : AccAt c h' x d items ep t1 t0 ps :=
  ⟨k _ _ a.hx a.lx, k _ _ a.hd a.ld, a.lx, a.ld, ⟨a.ps.1, fun j p hj => let ⟨T, t, t', q, b, e⟩ := a.ps.2 j p hj; ⟨T, t, t', q, k _ _ b e, e⟩⟩⟩
theorem Bod.k270 {c : Cx} {L : Addr} {m : List (Str × Value)} {mu : List (Addr × Obj)} {s s' : Shared} (B : Bod c (hideAll s.heap (tabs ++ [])) L m mu s') : ∀ b o, s.heap.get? b = some o → 270 ≤ b → s'.heap.get? b = some o :=
  fun b o q hb => B.keep b o (hideAll_get _ q (by simpa using Bod.notTab b hb))

theorem onlyws_spec {c : Cx} {k : Nat} {A : Around} {s : Shared} {x d : Addr} {items : Array Value} {ep : Nat} {t1 t0 : Tok} {ps : List (Str × Str)} {Q : Value → Shared → Prop} {E : Value → Shared → Prop}
    (I : SInv c s) (R : Room (k + 4) A) (a : AccAt c s.heap x d items ep t1 t0 ps) (hz : ∀ p ∈ ps, p.1.length ≤ 10000 ∧ p.2.length ≤ 10000) (hn : ps.length ≤ 100) (ht : tot ps ≠ 0) (hsp : Txt.isspace (lineOf ps) = false)
    (h : ∀ s', Ev c s s' → Q (.bool false) s') : wpAny c.M A (call (.ref 210) [.ref x]) Q E s := by
  refine enterL [(n_self, .ref x)] [] I R (by walk_at "fn") ?_
  intro L s1 eL B kp R'
  have a1 := a.move B.k270
  refine wpAny_execs_cons ?_
  refine wpAny_Return_some ?_
  refine wpAny_And2 ?_
  refine wpAny_Compare1 ?_
  refine e_attr ?_
  walk_at "nm"
  refine get_L (b := Builtin.«object.__getattribute__») B.inv.kin a1.inst (fa_mro _) (fa_ga _) (fa_gk _) (fi_size _ _ _) (by rfl) ?_
  refine b_int (B.toks _) ?_
  intro t2 s2 B2
  refine P.eq_int ?_
  refine b_bool ?_
  dsimp only
  refine wpAny_Or2 ?_
  refine wpAny_UnaryOp ?_
  refine b_name B2 (envF_locals _ _ _) (by rfl) (by kernel_rfl) (by kernel_rfl) (by kernel_rfl) ?_
  unfold unaryOp
  try dsimp only
  refine wpAny_holding (KFB.if_so (by decide) ?_)
  refine wpAny_bind (truth_acc B2.inv R' (a.move B2.k270) hz hn ?_)
  intro s3 E3
  have B3 := B2.after E3
  refine wpAny_pure ?_
  have hb : (tot ps != 0) = true := by simpa using ht
  rw [hb]
  refine b_bool ?_
  simp only [Bool.not_true, Bool.false_eq_true, if_false]
  refine c_attrC ?_
  refine c_name ?_
  refine b_glob B3 (gv_str _) (by kernel_rfl) (by kernel_rfl) (by kernel_rfl) (by kernel_rfl) (by kernel_rfl) ?_
  refine cw_type ?_
  refine a_cons ?_
  refine b_name B3 (envF_locals _ _ _) (by rfl) (by kernel_rfl) (by kernel_rfl) (by kernel_rfl) ?_
  refine a_nil ?_
  refine str_acc B3.inv R' (a.move B3.k270) hz hn ?_
  intro t4 s4 E4
  have B4 := B3.after E4
  with_reducible refine ms_isspace ?_
  refine cw_builtin0 ?_
  refine SC.isspace ?_
  rw [hsp]
  exact h s4 (B4.ev rfl)
end Mine
end
section
namespace Mine
open PySem PySem.W PySem.W.X PyProof.Rows PySem.Calls

section
variable {c : Cx} {A : Around} {R : Result → Shared → Prop} {h : Heap} {g : Array GenState} {d : Drawn} {t : Nat} {os : OsState} {v : Value}

theorem made221 (X : (KS c.w.params).In h) : Looks c.M h (Bind.madeBy (.ref 221)) (some "list.__new__") := by
  have ho : ((KS c.w.params).lookup 221).map (fun o => ((o.slots.toList[4]?).join, match o.data with | .cls cd => cd.mro | _ => [])) = some (some (.builtin "list.__new__"), [.ref 221, .type "list", .type "object"]) := by kernel_rfl
  obtain ⟨o, e1, e2⟩ := Option.map_eq_some_iff.mp ho
  have e3 : (o.slots.toList[4]?).join = some (.builtin "list.__new__") := congrArg (·.1) e2
  refine hG fun zP zK => ?_
  obtain ⟨cd, f1, _, f3⟩ := cd_acc c.w.params
  refine zK ?_
  have hm : Looks c.M h (mroOf (.ref 221)) [.ref 221, .type "list", .type "object"] := f3 ▸ (looks_clsIn X f1).andThen .now
  intro A Q E s k q
  unfold Bind.madeBy
  refine wpAny_bind (hm A _ E s k ?_)
  rw [List.forIn_cons]
  refine wpAny_bind (wpAny_bind (wpAny_bind (wpAny_bind (wpAny_loadPart (k _ _ (X _ _ e1)) (wpAny_pure ?_)))))
  rw [← Array.getElem?_toList, e3]
  exact wpAny_pure (wpAny_pure (wpAny_pure q))

theorem base221 (X : (KS c.w.params).In h) : Looks c.M h (Bind.staticBase (.ref 221)) (.ref 221) := by
  refine hG fun zP zK => ?_
  obtain ⟨cd, f1, _, f3⟩ := cd_acc c.w.params
  refine zK ?_
  have hm : Looks c.M h (mroOf (.ref 221)) [.ref 221, .type "list", .type "object"] := f3 ▸ (looks_clsIn X f1).andThen .now
  intro A Q E s k q
  unfold Bind.staticBase
  refine wpAny_bind (hm A _ E s k ?_)
  rw [List.forIn_cons]
  exact wpAny_bind (wpAny_bind (wpAny_bind (made221 X A _ E s k (wpAny_pure (wpAny_pure (wpAny_pure q))))))

theorem cls221 (X : (KS c.w.params).In h) : ∃ oD cd, h.get? 221 = some oD ∧ oD.data = .cls cd ∧ cd.hasDel = false := by
  have ho : ((KS c.w.params).lookup 221).map (fun o => match o.data with | .cls cd => !cd.hasDel | _ => false) = some true := by kernel_rfl
  obtain ⟨o, e1, e2⟩ := Option.map_eq_some_iff.mp ho
  refine ⟨o, ?_⟩
  split at e2
  · rename_i cd hd
    exact ⟨cd, X _ _ e1, hd, by simpa using e2⟩
  · cases e2

theorem chkNewL {E : Value → Shared → Prop} {Q : Unit → Shared → Prop} (X : (KS c.w.params).In h) (hq : Q () ⟨h, g, d, t, os⟩) : wpAny c.M A (checkBuiltinCall "list.__new__" ⟨[.ref 221, v], []⟩) Q E ⟨h, g, d, t, os⟩ := by
  have hk : builtinKind "list.__new__" = some .builtinFn := by kernel_rfl
  have hs : splitId "list.__new__" = some ("list", "__new__") := by kernel_rfl
  have ha : argsOk "list.__new__" ⟨[.ref 221, v], []⟩ := by unfold argsOk; kernel_rfl
  refine hG fun zP zK => ?_
  obtain ⟨oD, cd, hD, hDd, _⟩ := cls221 X
  refine zK ?_
  unfold checkBuiltinCall
  rw [hk, hs]
  dsimp only
  refine KFB.if_so (by decide) ?_
  refine wpAny_bind (ks_wpAny_isType_cls hD hDd ?_)
  refine KFB.if_not (by decide) ?_
  refine wpAny_bind ((looks_mroIn X (fa_mro _)).at ?_)
  refine KFB.if_not (by decide) ?_
  refine wpAny_bind ((base221 X).at ?_)
  refine wpAny_bind ((made221 X).at ?_)
  dsimp only
  refine KFB.if_not (by simp) ?_
  cases hsig : Manifest.signature? "list.__new__" with
  | none => exact wpAny_pure hq
  | some sig =>
    simp only [argsOk, hsig] at ha
    have h2 : Bind.checkArgs "list.__new__" sig ⟨[.ref 221, v], []⟩ = pure () := ha
    dsimp only
    rw [h2]; exact wpAny_pure hq

theorem newL (X : (KS c.w.params).In h) (hq : R (.ok (.ret (.ref (h.objs.size + 1)))) ⟨(h.push emptyDict).push (accO h.objs.size #[] 0), g, d, t, os⟩) :
    codeAny c.M A (.call (.builtin "list.__new__") ⟨[.ref 221, v], []⟩) R ⟨h, g, d, t, os⟩ := by
  refine codeAny_of_tree ?_
  show wpAny _ A.in1 (do checkBuiltinCall "list.__new__" ⟨[.ref 221, v], []⟩; again (.builtin "list.__new__" ⟨[.ref 221, v], []⟩)) _ _ _
  refine wpAny_bind (chkNewL X (wpAny_pure ⟨plainId_quiet F.plain_list_new _, codeAny_builtin_stack F.entry_list_new rfl fun p st => ?_⟩))
  rw [Around.under_plainId F.plain_list_new _]
  refine hG fun zP zK => ?_
  obtain ⟨oD, cd, hD, hDd, hdel⟩ := cls221 X
  refine zK ?_
  simp only [owner_list_new]
  refine wpAny_bind (ks_wpAny_isType_cls hD hDd ?_)
  refine KFB.if_not (by decide) ?_
  refine wpAny_bind ((looks_mroIn X (fa_mro _)).at ?_)
  refine KFB.if_not (by decide) ?_
  refine wpAny_bind (wpAny_pure ?_)
  refine KFB.if_not (by rfl) ?_
  refine wpAny_bind (wpAny_newObj_type ?_ (by size_fits))
  dsimp only
  refine wpAny_bind ?_
  unfold newObj newObjAsIs classHasDel
  dsimp only
  rw [if_neg (by decide)]
  refine wpAny_bind (wpAny_alloc (wpAny_bind (wpAny_bind (wpAny_load (Heap.get?_push_of_some _ (Heap.get?_push_of_some _ hD)) ?_))))
  rw [hDd]
  refine wpAny_pure ?_
  rw [hdel]
  refine wpAny_pure (wpAny_pure ?_)
  show R _ _
  rw [Heap.size_push]
  exact hq
end
end Mine
end
section
namespace Mine
open PySem PySem.W PySem.W.X PyProof.Rows PySem.Calls

theorem Room.tcall {k : Nat} {A : Around} {C : Addr} {rest : List Value} (R : Room (k + 1) A) : Room k (A.under (.builtin "type.__call__" ⟨.ref C :: rest, []⟩)) := by
  obtain ⟨a, b, d, e, g⟩ := R
  refine ⟨a, ?_, ?_, e, g⟩
  · show A.depth + 1 + k ≤ 690; lia
  · show A.units + 1 + 100 * k ≤ 9000; lia

theorem enterMAc {c : Cx} {k : Nat} {A : Around} {s : Shared} {f : Addr} {args : List Value} (m : List (Str × Value)) {P : Result → Shared → Prop} {mu : List (Addr × Obj)}
    (I : SInv c s) (R : Room (k + 1) A) (H : Has mu s) (O : FnOk c.w.params f args m)
    (h : ∀ L s', L = s.heap.objs.size → Bod c (hideAll s.heap (tabs ++ mu.map (·.1))) L m mu s' → Room k (A.deeper (envF c.w.params f L)) →
      PySem.wpAt c.M (A.deeper (envF c.w.params f L)) (.func (bodyF c.w.params f) (envF c.w.params f L)) (execs (bodyF c.w.params f) (envF c.w.params f L)) (fun fl s' => P (.ok (.ret (match fl with | .ret v => v | _ => .none))) s') (fun _ _ => False) s') :
    codeAny c.M A (.call (.ref f) ⟨args, []⟩) P s := by
  have hB : BindsTo s (fdF c.w.params f) ⟨args, []⟩ m.reverse := O.binds I.kin
  refine ks_codeAny_call_defAt (fd := fdF c.w.params f) (body := bodyF c.w.params f) (binds := m.reverse) R.lim (inK I O.at_) O.data (noLimit_of I) (codeRec_of I.kin O.code) O.body hB
    (fun x hx => of_decide_eq_true (List.all_eq_true.mp O.cell x hx)) (fun x hx => of_decide_eq_true (List.all_eq_true.mp O.loc x (List.mem_reverse.mp hx))) (fun h₁ hns hk₁ => ?_) O.co O.gen O.kind
  rw [List.reverse_reverse] at hns
  have hz : s.heap.objs.size ≤ h₁.objs.size := Nat.le_of_lt hns.lt
  have I' : SInv c { s with heap := h₁, toks := s.toks + m.reverse.length } := I.keeps hk₁ hz
  have B0 : Bod c (hideAll s.heap (tabs ++ mu.map (·.1))) s.heap.objs.size m [] { s with heap := h₁, toks := s.toks + m.reverse.length } := by
    refine ⟨I', hns, fun b o e => hk₁ b o (of_hideAll _ e), hide_tabs, ?_, fun _ hp => (nomatch hp), fun _ hp => (nomatch hp), by simp, I.size, fun _ hp => (nomatch hp), by rw [hideAll_size]; exact hz⟩
    cases q : (hideAll s.heap (tabs ++ mu.map (·.1))).get? s.heap.objs.size with
    | none => rfl
    | some o => exact absurd (Heap.lt_size (of_hideAll _ q)) (Nat.lt_irrefl _)
  exact ks_wpAt_mono (h _ _ rfl (B0.takeAll hk₁ (Nat.le_refl _) H.own rfl H.nod) (R.deeper _)) (fun fl s' q => q) (fun _ _ q => q.elim)

/-- list.__init__ on an empty accumulator -/
theorem listInit_body {c : Cx} {he : Heap} {L : Addr} {m : List (Str × Value)} {mu pre post : List (Addr × Obj)} {s : Shared} {A : Around} {E : Value → Shared → Prop}
    {a : Addr} {cl : Value} {dd : Option Addr} {items : Array Value} {ep : Nat} {sl : Array (Option Value)} {Q : Fin → Shared → Prop} (B : Bod c he L m mu s) (hmu : mu = pre ++ (a, ⟨cl, dd, .seq items ep, sl⟩) :: post)
    (h : ∀ ep' s', Bod c he L m (pre ++ (a, ⟨cl, dd, .seq #[] ep', sl⟩) :: post) s' → Q (.done (.ret .none)) s') : wpAny c.M A (Builtin.«list.__init__» ⟨[.ref a], []⟩) Q E s := by
  have D : s.heap.get? a = some ⟨cl, dd, .seq items ep, sl⟩ := B.own (a, ⟨cl, dd, .seq items ep, sl⟩) (by rw [hmu]; simp)
  unfold Builtin.«list.__init__»
  dsimp only
  refine KFB.if_not (by rfl) ?_
  rw [if_neg (by decide)]
  refine wpAny_bind (wpAny_listItems D rfl ?_)
  refine wpAny_bind ?_
  unfold Builtin.List.listUpdate
  dsimp only
  refine b_updateSeq B hmu (by simp) (fun ep' s' B' => ?_)
  refine wpAny_bind (wpAny_letGo ?_)
  exact wpAny_pure (h ep' s' B')

theorem init_acc {c : Cx} {k : Nat} {A : Around} {s : Shared} {x d : Addr} {v : Value} {P : Result → Shared → Prop}
    (I : SInv c s) (R : Room (k + 1) A) (H : Has [(x, accO d #[] 0), (d, emptyDict)] s)
    (h : ∀ t1 ep' s', MEv c [(x, accO d #[] 0), (d, emptyDict)] [(x, accO d #[] ep'), (d, acD c.w.params t1 v)] [] s s' → P (.ok (.ret .none)) s') :
    codeAny c.M A (.call (.ref 158) ⟨[.ref x, v], []⟩) P s := by
  refine enterMAc [(n_initial_size, v), (n_self, .ref x)] I R H (by walk_at "fnd") ?_
  intro L s1 eL B R'
  refine ks_wpAt_execs_cons ?_
  refine ks_wpAt_Assign_Attr ?_
  refine PySem.wpAt_of_wpAny ?_
  walk_at "nm"
  walk_at "nm"
  refine set_size0 (pre := [(x, accO d #[] 0)]) B rfl (List.mem_cons_self ..) ?_
  intro t1 s2 B2
  dsimp only
  refine ks_wpAt_execs_cons ?_
  refine ks_wpAt_Expr_any ?_
  have J : W.InstAt s2.heap x (accO d #[] 0) 221 (some (acD c.w.params t1 v)) := ⟨B2.own (x, accO d #[] 0) (mI 0 rfl), rfl, rfl, B2.own (d, acD c.w.params t1 v) (mI 1 rfl)⟩
  refine b_super (gt_init c) (bd_init c) B2 (so_158 _) rfl J (by kernel_rfl) (by kernel_rfl) ?_
  intro s3 B3 k3
  refine listInit_body (pre := []) B3 rfl ?_
  intro ep' s4 B4
  refine ⟨_, rfl, ?_⟩
  dsimp only
  refine PySem.wpAt_of_wpAny (wpAny_execs_nil ?_)
  exact h t1 ep' s4 (Bod.mev (nw := []) (rest := []) B4 rfl (fun _ h => nomatch h))

theorem make_acc {c : Cx} {k : Nat} {A : Around} {s : Shared} {v : Value} {Q : Value → Shared → Prop} {E : Value → Shared → Prop} (I : SInv c s) (R : Room (k + 3) A)
    (h : ∀ x d t1 ep s', Ev c s s' → s.heap.objs.size ≤ x → s.heap.objs.size ≤ d → x ≠ d → s'.heap.get? x = some (accO d #[] ep) → s'.heap.get? d = some (acD c.w.params t1 v) → Q (.ref x) s') :
    wpAny c.M A (call (.ref 221) [v]) Q E s := by
  have X := I.kin
  obtain ⟨oD, cd, hD, hDd, hdel⟩ := cls221 X
  obtain ⟨cd', f1, _, f3⟩ := cd_acc c.w.params
  have hm : Looks c.M s.heap (mroOf (.ref 221)) [.ref 221, .type "list", .type "object"] := f3 ▸ (looks_clsIn X f1).andThen .now
  have hcall : Looks c.M s.heap (specialOf (.ref 221) "__call__") (some (.builtin "type.__call__")) := looks_specialIn X (by kernel_rfl)
  have typ : Looks c.M s.heap (isInstance (.ref 221) (.type "type")) true := looks_instIn X (by kernel_rfl)
  have hself : Looks c.M s.heap (isSubtype (.ref 221) (.ref 221)) true := looks_mroIn X (by kernel_rfl)
  have made := made221 X
  have hi : Looks c.M s.heap (typeLookup (.ref 221) "__init__") (some (.ref 158)) := looks_findIn X (by kernel_rfl)
  obtain ⟨hh, g, dr, t, os⟩ := s
  refine wpAny_call (codeAny_of_tree ?_)
  show wpAny _ _ (callAny (.ref 221) _) _ _ _
  obtain ⟨o1, o2, o3, o4⟩ := oD
  dsimp only at hDd
  subst hDd
  refine nd_load hD ?_
  show wpAny _ _ (callAny.viaDunder (.ref 221) _) _ _ _
  unfold callAny.viaDunder
  refine wpAny_bind (hcall.at ?_)
  dsimp only
  rw [tc_bind]
  refine wpAny_bind (wpAny_pure (wpAny_bind (wpAny_pure ?_)))
  refine wpAny_pure (a := Fin.again (.call (.builtin "type.__call__") ⟨[.ref 221, v], []⟩)) (And.intro rfl ?_)
  refine codeAny_call_builtin_at (Code.quiet_builtin _ (by decide +kernel)) entry_typeCall (check_slot tc_kind tc_split typ (tc_args _ _ _) ?_)
  unfold Builtin.«type.__call__»
  dsimp only
  refine KFB.if_not (by decide) ?_
  refine wpAny_bind (hm.at ?_)
  refine KFB.if_not (by decide) ?_
  refine wpAny_bind (made.at ?_)
  dsimp only
  refine wpAny_bind (wpAny_pure ?_)
  refine wpAny_bind (wpAny_holding (wpAny_call (newL X ?_)))
  dsimp only
  have k2 : Kept hh ((hh.push emptyDict).push (accO hh.objs.size #[] 0)) := fun b o e => Heap.get?_push_of_some _ (Heap.get?_push_of_some _ e)
  have I2 : SInv c ⟨(hh.push emptyDict).push (accO hh.objs.size #[] 0), g, dr, t, os⟩ := I.keeps k2 (by rw [Heap.size_push, Heap.size_push]; show hh.objs.size ≤ _; lia)
  have hx : ((hh.push emptyDict).push (accO hh.objs.size #[] 0)).get? (hh.objs.size + 1) = some (accO hh.objs.size #[] 0) := by
    have := Heap.get?_push_size (h := hh.push emptyDict) (o := accO hh.objs.size #[] 0) rfl
    rwa [Heap.size_push] at this
  have hd : ((hh.push emptyDict).push (accO hh.objs.size #[] 0)).get? hh.objs.size = some emptyDict := Heap.get?_push_of_some _ (Heap.get?_push_size _ rfl)
  have t1 : Looks c.M ((hh.push emptyDict).push (accO hh.objs.size #[] 0)) (typeOf (.ref (hh.objs.size + 1))) (.ref 221) := (Looks.ld hx).andThen .now
  have hI : Looks c.M ((hh.push emptyDict).push (accO hh.objs.size #[] 0)) (isInstance (.ref (hh.objs.size + 1)) (.ref 221)) true := t1.andThen (hself.keeps k2)
  refine wpAny_bind (hI.at ?_)
  refine KFB.if_not (by decide) ?_
  refine wpAny_bind (wpAny_holding ?_)
  unfold callSpecial? specialOf
  refine wpAny_bind (wpAny_bind (t1.at ((hi.keeps k2).at ?_)))
  dsimp only
  have hb : Looks c.M ((hh.push emptyDict).push (accO hh.objs.size #[] 0)) (bindSpecial (.ref 158) (.ref (hh.objs.size + 1))) (.ref 158, [.ref (hh.objs.size + 1)]) := bind_fn I2.kin _ (by kernel_rfl)
  refine wpAny_holding (wpAny_bind (hb.at (wpAny_bind (wpAny_call ?_))))
  have hlo : 270 ≤ hh.objs.size := I.size
  refine init_acc (s := ⟨(hh.push emptyDict).push (accO hh.objs.size #[] 0), g, dr, t, os⟩) (d := hh.objs.size) I2 R.tcall ⟨?_, ?_⟩ ?_
  · intro p hp
    rcases List.mem_cons.mp hp with rfl | hp
    · exact ⟨hx, Nat.le_succ_of_le hlo⟩
    · rw [List.mem_singleton.mp hp]; exact ⟨hd, hlo⟩
  · simp
  · intro t9 ep' s' M
    dsimp only
    refine wpAny_pure ?_
    dsimp only
    refine KFB.if_not (by decide) ?_
    refine wpAny_pure ?_
    refine h (hh.objs.size + 1) hh.objs.size t9 ep' s' ⟨M.inv, fun b o e n => M.keep b o (k2 b o e) n ?_, ?_⟩ (Nat.le_succ _) (Nat.le_refl _) (Nat.succ_ne_self _) (M.own (hh.objs.size + 1, accO hh.objs.size #[] ep') (mI 0 rfl)) (M.own (hh.objs.size, acD c.w.params t9 v) (mI 1 rfl))
    · have hlt : b < hh.objs.size := Heap.lt_size e
      simp only [List.map_cons, List.map_nil, List.mem_cons, List.not_mem_nil, or_false, not_or]
      exact ⟨Nat.ne_of_lt (Nat.lt_succ_of_lt hlt), Nat.ne_of_lt hlt⟩
    · refine Nat.le_trans ?_ M.size
      show hh.objs.size ≤ ((hh.push emptyDict).push (accO hh.objs.size #[] 0)).objs.size
      rw [Heap.size_push, Heap.size_push]; lia
end Mine
end
section
namespace Mine
open PySem PySem.W PySem.W.X PyProof.Rows PySem.Calls

theorem make_accM {c : Cx} {k : Nat} {A : Around} {s : Shared} {v : Value} {Q : Value → Shared → Prop} {E : Value → Shared → Prop} (I : SInv c s) (R : Room (k + 3) A)
    (h : ∀ x d t1 ep s', MEv c [] [] [(x, accO d #[] ep), (d, acD c.w.params t1 v)] s s' → Q (.ref x) s') : wpAny c.M A (call (.ref 221) [v]) Q E s := by
  refine make_acc I R ?_
  intro x d t1 ep s' E1 h1 h2 h3 e1 e2
  refine h x d t1 ep s' ⟨E1.inv, fun b o e n _ => E1.keep b o e n, E1.size, rfl, fun _ hp => (nomatch hp), ?_, by simpa using h3⟩
  intro p hp
  rcases List.mem_cons.mp hp with rfl | hp
  · exact ⟨e1, h1⟩
  · rw [List.mem_singleton.mp hp]; exact ⟨e2, h2⟩

noncomputable def dO (P : Params) (l : List (Str × Tok × Value)) : Obj := ⟨.type "dict", none, .dict (l.map fun x => (⟨PyData.keyHash P x.1, .str x.1 x.2.1, x.2.2⟩ : DictEntry)).toArray l.length, #[]⟩

theorem cd_vf (P : Params) : ∃ cd, clsIn (KS P) 137 = some cd ∧ cd.hasDict = true ∧ cd.mro = [.ref 137, .type "object"] := by
  have h : (clsIn (KS P) 137).map (fun cd => (cd.hasDict, cd.mro)) = some (true, [.ref 137, .type "object"]) := by kernel_rfl
  obtain ⟨cd, e1, e2⟩ := Option.map_eq_some_iff.mp h
  exact ⟨cd, e1, congrArg (·.1) e2, congrArg (·.2) e2⟩

section
variable {c : Cx} {he : Heap} {L : Addr} {m : List (Str × Value)} {mu pre post : List (Addr × Obj)} {s : Shared} {A : Around} {E : Value → Shared → Prop} {x d : Addr} {l : List (Str × Tok × Value)} {name : Str} {v : Value}
theorem set_vf {Q : Unit → Shared → Prop} (B : Bod c he L m mu s) (hmu : mu = pre ++ (d, dO c.w.params l) :: post) (hx : (x, instObj 137 d) ∈ mu) (hf : findIn (KS c.w.params) (.ref 137) name = some none)
    (hl : (lookIn name (dO c.w.params l)).isSome = true) (hz : l.length ≤ 100)
    (e : ∀ t, Obj.putName name (PyData.keyHash c.w.params name) (.str name t) v (dO c.w.params l) = dO c.w.params (l ++ [(name, t, v)]))
    (h : ∀ t s', Bod c he L m (pre ++ (d, dO c.w.params (l ++ [(name, t, v)])) :: post) s' → Q () s') : wpAny c.M A (setAttr (.ref x) name v) Q E s := by
  obtain ⟨cd, e1, e2, e3⟩ := cd_vf c.w.params
  refine b_setattr (C := 137) (cd := cd) (od' := fun t => dO c.w.params (l ++ [(name, t, v)])) (es := fun t => (l ++ [(name, t, v)]).map fun x => (⟨PyData.keyHash c.w.params x.1, .str x.1 x.2.1, x.2.2⟩ : DictEntry)) (n := l.length + 1) B hmu hx rfl rfl rfl e1 e2 (by rw [e3]; rfl) (by rw [e3]; decide) (by rw [e3]; exact refuse_vf x) (ff_set _) hf hl e (fun t => by unfold dO; simp) (fun t => by simp; lia) ?_
  exact h
end

structure VfD (c : Cx) (od : Obj) (W : Int) (ln ac : Addr) : Prop where
  maxlen : ∃ t, findObj (KS c.w.params) 137 (some od) n_maxlen_u = some (.value (.int W t))
  spl : ∃ t, findObj (KS c.w.params) 137 (some od) n_splitchars_u = some (.value (.str ⟨⟨[59]⟩⟩ t))
  lines : findObj (KS c.w.params) 137 (some od) n_lines_u = some (.value (.ref ln))
  cur : findObj (KS c.w.params) 137 (some od) n_current_line_u = some (.value (.ref ac))
  sh1 : shadowIn (some od) n_newline = some false
  sh2 : shadowIn (some od) n_str_u = some false
  sh3 : shadowIn (some od) n_ascii_split_u = some false
  sh4 : shadowIn (some od) n_append_chunk_u = some false

theorem cw_cls {c : Cx} {A : Around} {E : Value → Shared → Prop} {s : Shared} {env : Env} {pos : Pos} {Q : Value → Shared → Prop} {C : Addr} {first : List Value} {e : Expr} {rest : List Expr} (hk : keepIn (KS c.w.params) (.ref C) = true)
    (h : wpAny c.M A (spliced (backTo pos (starEach (e :: rest) env))) (fun vs s₁ => SInv c s₁ ∧ wpAny c.M A (call (.ref C) (first ++ vs)) Q E s₁) E s) (he : noStars (e :: rest) = true := by rfl) :
    wpAny c.M A (callWith pos (.ref C) first (backTo pos (starEach (e :: rest) env)) []) Q E s := by
  have hp := backTo_none (pos := pos) (env := env) he
  obtain ⟨h1, h2⟩ := Bool.and_eq_true_iff.mp he
  rw [starEach_of h1] at h hp ⊢
  refine callWith_of (P := fun h => (KS c.w.params).In h) (by rw [hp]; rfl) (fun h X => keeps_K hk h X) ?_
  exact evalArgs_plain (wpAny_mono h (fun vs s₁ h₁ => ⟨h₁.1.kin, h₁.2⟩) fun _ _ x => x)

theorem init_vf {c : Cx} {k : Nat} {A : Around} {s : Shared} {x d : Addr} {W : Int} {ta tb tc td : Tok} {Pr : Result → Shared → Prop}
    (I : SInv c s) (R : Room (k + 4) A) (H : Has [(x, instObj 137 d), (d, emptyDict)] s)
    (h : ∀ od ln ac ad epa t1 s', VfD c od W ln ac → MEv c [(x, instObj 137 d), (d, emptyDict)] [(x, instObj 137 d), (d, od)] [(ln, lstO #[] 0), (ac, accO ad #[] epa), (ad, acD c.w.params t1 (.int 0 ta))] s s' → Pr (.ok (.ret .none)) s') :
    codeAny c.M A (.call (.ref 78) ⟨[.ref x, .int 0 ta, .int W tb, .str ⟨⟨[32]⟩⟩ tc, .str ⟨⟨[59]⟩⟩ td], []⟩) Pr s := by
  refine enterMAc [(n_splitchars, .str ⟨⟨[59]⟩⟩ td), (n_continuation_ws, .str ⟨⟨[32]⟩⟩ tc), (n_maxlen, .int W tb), (n_headerlen, .int 0 ta), (n_self, .ref x)] I R H (by walk_at "fn") ?_
  intro L s1 eL B R'
  refine PySem.wpAt_of_wpAny ?_
  have B : Bod c (hideAll s.heap (tabs ++ List.map (·.1) [(x, instObj 137 d), (d, emptyDict)])) L [(n_splitchars, .str ⟨⟨[59]⟩⟩ td), (n_continuation_ws, .str ⟨⟨[32]⟩⟩ tc), (n_maxlen, .int W tb), (n_headerlen, .int 0 ta), (n_self, .ref x)] [(x, instObj 137 d), (d, dO c.w.params [])] s1 := B
  refine sK ?_
  refine plainObj_wpAny_Assign_Attribute ?_
  walk_at "nm"
  walk_at "nm"
  refine set_vf (pre := [(x, instObj 137 d)]) B rfl (List.mem_cons_self ..) (by kernel_rfl) (by kernel_rfl) (by simp) (fun t => by kernel_rfl) ?_
  intro t1 s2 B2
  clear B
  refine sK ?_
  refine plainObj_wpAny_Assign_Attribute ?_
  walk_at "nm"
  walk_at "nm"
  refine set_vf (pre := [(x, instObj 137 d)]) B2 rfl (List.mem_cons_self ..) (by kernel_rfl) (by kernel_rfl) (by simp) (fun t => by kernel_rfl) ?_
  intro t2 s3 B3
  clear B2
  refine sK ?_
  refine plainObj_wpAny_Assign_Attribute ?_
  refine c_name ?_
  refine b_glob B3 (gv_len _) (by kernel_rfl) (by kernel_rfl) (by kernel_rfl) (by kernel_rfl) (by kernel_rfl) ?_
  refine cw_builtin ?_
  refine a_cons ?_
  walk_at "nm"
  refine a_nil ?_
  refine P.len_str (by decide) ?_
  have B3' := B3.toks (s3.toks + 1 + 1)
  clear B3
  walk_at "nm"
  refine set_vf (pre := [(x, instObj 137 d)]) B3' rfl (List.mem_cons_self ..) (by kernel_rfl) (by kernel_rfl) (by simp) (fun t => by kernel_rfl) ?_
  intro t3 s4 B4
  clear B3'
  refine sK ?_
  refine plainObj_wpAny_Assign_Attribute ?_
  walk_at "nm"
  walk_at "nm"
  refine set_vf (pre := [(x, instObj 137 d)]) B4 rfl (List.mem_cons_self ..) (by kernel_rfl) (by kernel_rfl) (by simp) (fun t => by kernel_rfl) ?_
  intro t4 s5 B5
  clear B4
  refine sK ?_
  refine plainObj_wpAny_Assign_Attribute ?_
  refine e_list ?_
  refine a_nil ?_
  refine ⟨by walk_at "sz", _, _, _, _, B5, ?_⟩
  intro ln s6 B6 hln
  clear B5
  walk_at "nm"
  refine set_vf (pre := [(ln, lstO #[] 0), (x, instObj 137 d)]) B6 rfl (List.mem_cons_of_mem _ (List.mem_cons_self ..)) (by kernel_rfl) (by kernel_rfl) (by simp) (fun t => by kernel_rfl) ?_
  intro t5 s7 B7
  clear B6
  refine sK ?_
  refine plainObj_wpAny_Assign_Attribute ?_
  refine c_name ?_
  refine b_glob B7 (gv_Accumulator_u _) (by kernel_rfl) (by kernel_rfl) (by kernel_rfl) (by kernel_rfl) (by kernel_rfl) ?_
  refine cw_cls (by kernel_rfl) ?_
  refine a_cons ?_
  walk_at "nm"
  refine a_nil ?_
  refine ⟨B7.inv, ?_⟩
  refine make_accM B7.inv R' ?_
  intro ac ad ta1 epa s8 M8
  have B8 := B7.turned (mu := []) M8
  have z7 : s.heap.objs.size ≤ s7.heap.objs.size := by have := B7.size; rwa [hideAll_size] at this
  clear B7
  walk_at "nm"
  refine set_vf (pre := [(ac, accO ad #[] epa), (ad, acD c.w.params ta1 (.int 0 ta)), (ln, lstO #[] 0), (x, instObj 137 d)]) B8 rfl (mI 3 rfl) (by kernel_rfl) (by kernel_rfl) (by simp) (fun t => by kernel_rfl) ?_
  intro t6 s9 B9
  clear B8
  refine wpAny_execs_nil ?_
  rw [hideAll_size] at hln
  have B10 := B9.perm (mu' := [(x, instObj 137 d), (d, dO c.w.params [(n_maxlen_u, t1, .int W tb), (n_continuation_ws_u, t2, .str ⟨⟨[32]⟩⟩ tc), (n_continuation_ws_len_u, t3, .int 1 (s3.toks + 1)), (n_splitchars_u, t4, .str ⟨⟨[59]⟩⟩ td), (n_lines_u, t5, .ref ln), (n_current_line_u, t6, .ref ac)]), (ln, lstO #[] 0), (ac, accO ad #[] epa), (ad, acD c.w.params ta1 (.int 0 ta))]) ?_
  · refine h _ ln ac ad epa ta1 s9 ?_ (Bod.mev (mu' := [(x, instObj 137 d), (d, _)]) (nw := [(ln, lstO #[] 0), (ac, accO ad #[] epa), (ad, acD c.w.params ta1 (.int 0 ta))]) (rest := []) B10 rfl ?_)
    · exact ⟨⟨tb, by kernel_rfl⟩, ⟨td, by kernel_rfl⟩, by kernel_rfl, by kernel_rfl, by kernel_rfl, by kernel_rfl, by kernel_rfl, by kernel_rfl⟩
    · intro p hp
      rcases List.mem_cons.mp hp with rfl | hp
      · exact hln
      · exact Nat.le_trans z7 (M8.new p hp).2
  · show List.Perm [_, _, _, _, _] _
    refine List.perm_append_comm (l₁ := [_, _, _]) (l₂ := [_, _]) |>.trans ?_
    refine List.Perm.cons _ (List.Perm.cons _ ?_)
    exact List.perm_append_comm (l₁ := [_, _]) (l₂ := [_])
end Mine
end
section
namespace Mine
open PySem PySem.W PySem.W.X PyProof.Rows PySem.Calls

theorem make_vf {c : Cx} {k : Nat} {A : Around} {s : Shared} {W : Int} {ta tb tc td : Tok} {Q : Value → Shared → Prop} {E : Value → Shared → Prop} (I : SInv c s) (R : Room (k + 5) A)
    (h : ∀ x d od ln ac ad epa t1 s', VfD c od W ln ac → MEv c [] [] [(x, instObj 137 d), (d, od), (ln, lstO #[] 0), (ac, accO ad #[] epa), (ad, acD c.w.params t1 (.int 0 ta))] s s' → Q (.ref x) s') :
    wpAny c.M A (call (.ref 137) [.int 0 ta, .int W tb, .str ⟨⟨[32]⟩⟩ tc, .str ⟨⟨[59]⟩⟩ td]) Q E s := by
  have X := I.kin
  have hmk : makesIn (KS c.w.params) 137 = true := by kernel_rfl
  have hi : findIn (KS c.w.params) (.ref 137) "__init__" = some (some (.ref 78)) := by kernel_rfl
  have hft : typeIn (KS c.w.params) (.ref 78) = some (.type "function") := by kernel_rfl
  obtain ⟨hh, g, dr, t, os⟩ := s
  refine wpAny_call (make_core (makes_of X hmk) (looks_findIn X hi) (fun self => bind_fn X self hft) (.inl rfl) ?_)
  have k2 : Kept hh ((hh.push emptyDict).push (instObj 137 hh.objs.size)) := fun b o e => Heap.get?_push_of_some _ (Heap.get?_push_of_some _ e)
  have hzz : hh.objs.size ≤ ((hh.push emptyDict).push (instObj 137 hh.objs.size)).objs.size := by rw [Heap.size_push, Heap.size_push]; lia
  have I2 : SInv c ⟨(hh.push emptyDict).push (instObj 137 hh.objs.size), g, dr, t, os⟩ := I.keeps k2 hzz
  have hx : ((hh.push emptyDict).push (instObj 137 hh.objs.size)).get? (hh.objs.size + 1) = some (instObj 137 hh.objs.size) := by
    have := Heap.get?_push_size (h := hh.push emptyDict) (o := instObj 137 hh.objs.size) rfl
    rwa [Heap.size_push] at this
  have hd : ((hh.push emptyDict).push (instObj 137 hh.objs.size)).get? hh.objs.size = some emptyDict := Heap.get?_push_of_some _ (Heap.get?_push_size _ rfl)
  have hlo : 270 ≤ hh.objs.size := I.size
  refine init_vf (s := ⟨(hh.push emptyDict).push (instObj 137 hh.objs.size), g, dr, t, os⟩) (d := hh.objs.size) I2 R.tcall ⟨?_, ?_⟩ ?_
  · intro p hp
    rcases List.mem_cons.mp hp with rfl | hp
    · exact ⟨hx, Nat.le_succ_of_le hlo⟩
    · rw [List.mem_singleton.mp hp]; exact ⟨hd, hlo⟩
  · simp
  · intro od ln ac ad epa t1 s' V M
    refine ⟨rfl, ?_⟩
    have hz2 : hh.objs.size + 1 < ((hh.push emptyDict).push (instObj 137 hh.objs.size)).objs.size := by rw [Heap.size_push, Heap.size_push]; lia
    refine h (hh.objs.size + 1) hh.objs.size od ln ac ad epa t1 s' V ⟨M.inv, fun b o e n _ => M.keep b o (k2 b o e) n ?_, Nat.le_trans hzz M.size, rfl, fun _ hp => (nomatch hp), ?_, ?_⟩
    · have hlt : b < hh.objs.size := Heap.lt_size e
      simp only [List.map_cons, List.map_nil, List.mem_cons, List.not_mem_nil, or_false, not_or]
      exact ⟨Nat.ne_of_lt (Nat.lt_succ_of_lt hlt), Nat.ne_of_lt hlt⟩
    · intro p hp
      rcases List.mem_cons.mp hp with rfl | hp
      · exact ⟨M.own (hh.objs.size + 1, instObj 137 hh.objs.size) (mI 0 rfl), Nat.le_succ _⟩
      · rcases List.mem_cons.mp hp with rfl | hp
        · exact ⟨M.own (hh.objs.size, od) (mI 1 rfl), Nat.le_refl _⟩
        · exact ⟨(M.new p hp).1, Nat.le_trans hzz (M.new p hp).2⟩
    · have hn := M.nod
      have hnew : ∀ b ∈ [ln, ac, ad], hh.objs.size + 1 < b := by
        intro b hb
        have : ∃ p ∈ [(ln, lstO #[] 0), (ac, accO ad #[] epa), (ad, acD c.w.params t1 (.int 0 ta))], p.1 = b := by
          simp only [List.mem_cons, List.not_mem_nil, or_false] at hb
          rcases hb with rfl | rfl | rfl
          · exact ⟨_, List.mem_cons_self .., rfl⟩
          · exact ⟨_, List.mem_cons_of_mem _ (List.mem_cons_self ..), rfl⟩
          · exact ⟨_, List.mem_cons_of_mem _ (List.mem_cons_of_mem _ (List.mem_cons_self ..)), rfl⟩
        obtain ⟨p, hp, rfl⟩ := this
        exact Nat.lt_of_lt_of_le hz2 (M.new p hp).2
      show ([hh.objs.size + 1, hh.objs.size] ++ [ln, ac, ad]).Nodup
      rw [List.nodup_append]
      refine ⟨by simp, hn, ?_⟩
      intro a ha b hb e
      have h1 := hnew b hb
      simp only [List.mem_cons, List.not_mem_nil, or_false] at ha
      rcases ha with rfl | rfl
      · exact absurd h1 (e ▸ Nat.lt_irrefl _)
      · exact absurd (Nat.lt_trans (Nat.lt_succ_self _) h1) (e ▸ Nat.lt_irrefl _)
end Mine
end
section
namespace Mine
open PySem PySem.W PySem.W.X PyProof.Rows PySem.Calls Builtin Builtin.ObjectAttr

theorem Bod.kept {c : Cx} {he : Heap} {L : Addr} {m : List (Str × Value)} {mu : List (Addr × Obj)} {s : Shared} {h' : Heap} {t : Nat} (B : Bod c he L m mu s) (k : Kept s.heap h') (hz : he.objs.size ≤ L) : Bod c he L m mu { s with heap := h', toks := t } := by
  have hn := B.ns.keeps k
  have hl := hn.lt
  have I : SInv c { s with heap := h', toks := t } :=
    ⟨fun b o e => k b o (B.inv.kin b o e), oldK_low B.inv.old (Nat.le_of_eq c.szB) (fun b o _ e => k b o e), Nat.le_trans B.lowL (Nat.le_of_lt hl), B.inv.t47.low (fun b o _ e => k b o e) (by decide) (by decide), B.inv.t183.low (fun b o _ e => k b o e) (by decide) (by decide), B.inv.t190.low (fun b o _ e => k b o e) (by decide) (by decide), B.inv.bare, B.inv.os⟩
  exact ⟨I, hn, fun b o e => k _ _ (B.keep _ _ e), B.hidT, B.hidL, B.hidM, fun p hp => k _ _ (B.own p hp), B.nod, B.lowL, B.lowM, Nat.le_trans hz (Nat.le_of_lt hl)⟩

theorem star_tup {c : Cx} {A : Around} {E : Value → Shared → Prop} {s : Shared} {T : Addr} {vs : List Value} {Q : List Value → Shared → Prop} (hT : s.heap.get? T = some (tupO vs)) (hz : vs.length ≤ sizeLine)
    (h : ∀ h', Kept s.heap h' → Q vs { s with heap := h' }) : StarOf c.M A E (.ref T) Q s := by
  have hT' : s.TypeIs (.ref T) "tuple" := ⟨_, hT, rfl⟩
  have z : wpAny c.M A (collect (.ref T)) Q E s := by
    refine wpAny_collect_seq T (.inr rfl) hT rfl rfl (fun h' hk => ?_) (by simpa using hz)
    exact h h' hk
  unfold StarOf notIterableAtAll
  exact wpAny_bind (wpAny_specialOf hT' PySem.F.slot_tuple_iter.lookup (wpAny_pure ⟨rfl, z⟩))

section
variable {prog : Program} {w : World} {A : Around} {E : Value → Shared → Prop} {s : Shared} {K : Frag} {x C : Addr} {ox : Obj} {od : Option Obj} {name : Str}
/-- a def of the class read from an object of the list class -/
theorem get_Lbind {f : Addr} {of : Obj} {expr : Bool} {Q : Value → Shared → Prop} (X : K.In s.heap) (I : InstAt s.heap x ox C od) (hm : mroIn K C (.type "list") = some true)
    (hga : findIn K (.ref C) "__getattribute__" = some (some (.builtin "list.__getattribute__"))) (hk : findIn K (.ref C) "__getattr__" = some none)
    (hf : findObj K C od name = some (.bind (.builtin "function.__get__") (.ref f))) (hfo : s.heap.get? f = some of) (hfc : of.cls = .type "function")
    (h : Q (.ref s.heap.objs.size) { s with heap := s.heap.push (methodObj (.ref f) (.ref x)), toks := s.toks + 1 }) : wpAny (model prog w) A (getAttr (.ref x) name expr) Q E s := by
  obtain ⟨hh', g, d, t, os⟩ := s
  have L0 := I.type (M := model prog w)
  have L1 := looks_findIn (M := model prog w) X hga
  have L2 := looks_findIn (M := model prog w) X hk
  have L3 := looks_find (M := model prog w) X I hf
  unfold getAttr getAttrBy
  refine wpAny_bind (wpAny_mkText (wpAny_holding (wpAny_bind (L0.at (wpAny_bind (L1.at ?_))))))
  dsimp only
  have hne : (onTheHeap (Value.ref C) && (Value.builtin "list.__getattribute__" == Value.builtin "object.__getattribute__")) = false := by show (true && _) = false; decide
  rw [if_neg (by rw [hne]; decide)]
  unfold getAttrByItsOwn hookBefore
  refine wpAny_bind ?_
  rw [if_pos (show onTheHeap (Value.ref C) = true from rfl)]
  refine L2.at ?_
  refine wpAny_bind (wpAny_attempt (wpAny_holding ?_))
  have hb : bindSpecial (.builtin "list.__getattribute__") (.ref x) = pure (.builtin "list.__getattribute__", [.ref x]) := by kernel_rfl
  have he : callGetattribute (.ref x) (.str name t) (.builtin "list.__getattribute__") expr = boundAndCalled (.builtin "list.__getattribute__") (.ref x) (.str name t) := by cases expr <;> rfl
  rw [he]
  unfold boundAndCalled
  rw [hb]
  refine wpAny_bind (wpAny_pure ?_)
  refine wpAny_call ?_
  refine call_L (n := "__getattribute__") (b := Builtin.«object.__getattribute__») (s := ⟨hh', g, d, t + 1, os⟩) X I hm (.inl (by kernel_rfl)) (by kernel_rfl) (by kernel_rfl) entry_lga (by unfold argsOk; kernel_rfl) ?_
  unfold Builtin.«object.__getattribute__»
  refine wpAny_bind ?_
  show wpAny _ _ (pure (Value.ref x, [Value.str name t])) _ _ _
  refine wpAny_pure ?_
  dsimp only
  refine wpAny_bind (wpAny_pure (wpAny_bind (L0.at (wpAny_bind (L3.at ?_)))))
  dsimp only
  unfold bindTo
  have hTf : (⟨hh', g, d, t + 1, os⟩ : Shared).TypeIs (.ref f) "function" := ⟨_, hfo, hfc⟩
  refine wpAny_bind (wpAny_holding (wpAny_call_entry F.ks_slot_function_get hTf F.ks_entry_function_get ?_ (F.ks_getArgs_function _ _ _)))
  unfold Builtin.«function.__get__»
  refine wpAny_bind (wpAny_of_eq (a := (.ref f, some (.ref x), some (.ref C))) (by rfl) ?_)
  dsimp only
  refine wpAny_bind (wpAny_newObj_type (wpAny_pure ⟨_, rfl, ?_⟩))
  refine wpAny_pure ?_
  exact wpAny_pure h
end
end Mine
end
section
namespace Mine
open PySem PySem.W PySem.W.X PyProof.Rows PySem.Calls

theorem push_code {c : Cx} {k : Nat} {A : Around} {s : Shared} {x d : Addr} {items : Array Value} {ep : Nat} {od : Obj} {f g : Value} {P : Result → Shared → Prop}
    (I : SInv c s) (R : Room (k + 1) A) (H : Has [(x, accO d items ep), (d, od)] s) (hod : shadowIn (some od) n_append = some false) (hz : items.size + 1 ≤ sizeLine)
    (h : ∀ p ep' s', MEv c [(x, accO d items ep), (d, od)] [(x, accO d (items.push (.ref p)) ep'), (d, od)] [(p, tupO [f, g])] s s' → P (.ok (.ret .none)) s') :
    codeAny c.M A (.call (.ref 165) ⟨[.ref x, f, g], []⟩) P s := by
  refine enterMAc [(n_string, g), (n_fws, f), (n_self, .ref x)] I R H (by walk_at "fn") ?_
  intro L s' eL B R'
  refine PySem.wpAt_of_wpAny ?_
  refine sK ?_
  refine wpAny_Expr ?_
  refine c_attr ?_
  walk_at "nm"
  refine b_method (f := .builtin "list.append") (ga := "list.__getattribute__") (tf := "method_descriptor") (C := 221) (dx := d) (od := od) (ox := accO d items ep) B (mI 0 rfl) (mI 1 rfl) rfl rfl rfl (fa_ga _) can_l (fa_gk _) (fa_append _) (ft_append _) tf_m hod ?_
  refine cw_builtin ?_
  refine a_cons ?_
  refine e_tupleQ fun q1 e1 hq1 => ?_
  refine a_cons ?_
  walk_at "nm"
  refine a_cons ?_
  walk_at "nm"
  refine a_nil ?_
  refine hq1 _ _ _ _ _ _ (by walk_at "sz") B ?_
  intro p s1 B1 hp
  refine a_nil ?_
  refine b_appendL (dx := d) (od := od) (pre := [(p, tupO [f, g])]) (post := [(d, od)]) B1 rfl (mI 2 rfl) rfl (fa_mro _) hz ?_
  intro ep' s2 B2
  refine wpAny_execs_nil ?_
  refine h p ep' s2 (Bod.mev (rest := []) (B2.perm ?_) rfl ?_)
  · exact (List.Perm.swap _ _ _).trans ((List.Perm.swap _ _ _).cons _)
  · intro q hq
    rw [List.mem_singleton.mp hq]
    rwa [hideAll_size] at hp

/-- a method call with one starred argument -/
theorem c_attrS {prog : Program} {w : World} {A : Around} {E : Value → Shared → Prop} {s : Shared} {env : Env} {o e : Expr} {name : Str} {apos pos p : Pos} {Q : Value → Shared → Prop}
    (h : wpAny (model prog w) A (eval o env) (fun ov s₁ => wpAny (model prog w) A (getAttr ov name true) (fun r s₂ => wpAny (model prog w) A (callWith pos r [] (backTo pos (starEach [.Starred e p] env)) []) Q E s₂) E s₁) E s)
    (hb : plainBase o = true := by rfl) :
    wpAny (model prog w) A (eval (.Call (.Attribute o name apos) [.Starred e p] [] pos) env) Q E s := by
  rw [arm_eval_Call, base_of hb]
  refine wpAny_bind (wpAny_mono h (fun ov s₁ h₁ => ?_) fun _ _ e => e)
  refine wpAny_bind (wpAny_standAt ?_)
  have hform : methodCallForm ([Expr.Starred e p].length + ([] : List Keyword).length) (backTo pos (starEach [.Starred e p] env)) (backToKw pos (keywordEach [] env)) = false := rfl
  unfold methodCall
  rw [hform]
  refine wpAny_bind (wpAny_holding ?_)
  show wpAny _ _ (getAttr ov name true >>= fun v => pure (v, [])) _ _ _
  refine wpAny_bind (wpAny_mono h₁ (fun r s₂ h₂ => ?_) fun _ _ e => e)
  refine wpAny_pure ?_
  exact wpAny_bind (wpAny_pure h₂)

/-- the call of a bound def, one starred argument, a tuple -/
theorem cw_star {c : Cx} {A : Around} {E : Value → Shared → Prop} {s : Shared} {env : Env} {q f x : Addr} {e : Expr} {pos p : Pos} {Q : Value → Shared → Prop} (hf : fnIn (KS c.w.params) f = true)
    (h : wpAny c.M A (eval e env) (fun v s₁ => StarOf c.M A E v (fun vs s₂ => s₂.heap.get? q = some (methodObj (.ref f) (.ref x)) ∧ (KS c.w.params).In s₂.heap ∧ codeAny c.M A (.call (.ref f) ⟨.ref x :: vs, []⟩) (fun r s' => match r with | .ok (.ret v) => Q v s' | .ok _ => False | .error e => E e s') s₂) s₁) E s) :
    wpAny c.M A (callWith pos (.ref q) [] (backTo pos (starEach [.Starred e p] env)) []) Q E s := by
  refine ks_call (P := MethP (KS c.w.params) q f (.ref x)) rfl (fun h X => keeps_M hf h X) ?_
  refine ks_lone (wpAny_mono h (fun v s₁ h₁ => ?_) fun _ _ e => e)
  unfold StarOf at h₁ ⊢
  refine wpAny_mono h₁ (fun b s₂ h₂ => ⟨h₂.1, wpAny_mono h₂.2 (fun vs s₃ h₃ => ?_) fun _ _ e => e⟩) fun _ _ e => e
  obtain ⟨hq, X, hc⟩ := h₃
  refine ⟨⟨hq, X⟩, ?_⟩
  refine wpAny_call (ks_codeAny_call_bound hq ?_)
  exact hc
end Mine
end
section
namespace Mine
open PySem PySem.W PySem.W.X PyProof.Rows PySem.Calls

theorem PartsAt.mono {h h' : Heap} {items : Array Value} {ps : List (Str × Str)} (a : PartsAt h items ps) (k : Kept h h') : PartsAt h' items ps :=
  ⟨a.1, fun j p hj => let ⟨T, t, t', q, b, e⟩ := a.2 j p hj; ⟨T, t, t', q, k _ _ b, e⟩⟩
theorem PartsAt.snoc {h : Heap} {items : Array Value} {ps : List (Str × Str)} {T : Addr} {p : Str × Str} {t t' : Tok} (a : PartsAt h items ps) (e : h.get? T = some (tupO [.str p.1 t, .str p.2 t'])) (hl : 270 ≤ T) : PartsAt h (items.push (.ref T)) (ps ++ [p]) := by
  refine ⟨by simp [a.1], fun j q hj => ?_⟩
  by_cases hlt : j < ps.length
  · rw [List.getElem?_append_left hlt] at hj
    obtain ⟨T', u, u', q1, b, e'⟩ := a.2 j q hj
    refine ⟨T', u, u', ?_, b, e'⟩
    rw [Array.getElem?_push_lt (by rw [a.1]; exact hlt)]
    have hlt' : j < items.size := by rw [a.1]; exact hlt
    rw [Array.getElem?_eq_getElem hlt'] at q1
    exact q1
  · have hj2 : j = ps.length := by
      have := (List.getElem?_eq_some_iff.mp hj).1
      simp at this; lia
    subst hj2
    rw [List.getElem?_append_right (Nat.le_refl _)] at hj
    simp at hj
    subst hj
    exact ⟨T, t, t', by rw [← a.1]; simp, e, hl⟩
theorem PartsAt.last {h : Heap} {items : Array Value} {v : Value} {ps : List (Str × Str)} {p : Str × Str} (a : PartsAt h (items.push v) (ps ++ [p])) :
    PartsAt h items ps ∧ ∃ T t t', v = .ref T ∧ h.get? T = some (tupO [.str p.1 t, .str p.2 t']) ∧ 270 ≤ T := by
  have hs : items.size = ps.length := by have := a.1; simp at this; exact this
  refine ⟨⟨hs, fun j q hj => ?_⟩, ?_⟩
  · have hlt := (List.getElem?_eq_some_iff.mp hj).1
    obtain ⟨T', u, u', q1, b, e'⟩ := a.2 j q (by rw [List.getElem?_append_left hlt]; exact hj)
    refine ⟨T', u, u', ?_, b, e'⟩
    rw [Array.getElem?_push_lt (by rw [hs]; exact hlt)] at q1
    rw [Array.getElem?_eq_getElem (by rw [hs]; exact hlt)]
    exact q1
  · obtain ⟨T, u, u', q1, b, e'⟩ := a.2 ps.length p (by simp)
    rw [← hs] at q1
    simp at q1
    exact ⟨T, u, u', q1, b, e'⟩

noncomputable abbrev vfMu (P : Params) (x dx ac ad ln : Addr) (od : Obj) (items : Array Value) (epa : Nat) (t1 t0 : Tok) (lines : Array Value) (epl : Nat) : List (Addr × Obj) :=
  [(ac, accO ad items epa), (ad, acD P t1 (.int 0 t0)), (ln, lstO lines epl), (x, instObj 137 dx), (dx, od)]
noncomputable abbrev Hid (mu : List (Addr × Obj)) (s : Shared) : Heap := hideAll s.heap (tabs ++ mu.map (·.1))

section
variable {c : Cx} {he : Heap} {L : Addr} {m : List (Str × Value)} {s : Shared} {A : Around} {E : Value → Shared → Prop} {x dx ac ad ln : Addr} {od : Obj} {items lines : Array Value} {epa epl : Nat} {t1 t0 : Tok} {rest : List (Addr × Obj)} {W : Int} {f : Addr}
/-- self._current_line -/
theorem e_cur {px p : Pos} {Q : Value → Shared → Prop} (V : VfD c od W ln ac) (B : Bod c he L m (vfMu c.w.params x dx ac ad ln od items epa t1 t0 lines epl ++ rest) s) (hm : m.lookup n_self = some (.ref x))
    (h1 : (envF c.w.params f L).scope.kind = .function) (h2 : (envF c.w.params f L).kindOf n_self = some .local)
    (h : ∀ s', Bod c he L m (vfMu c.w.params x dx ac ad ln od items epa t1 t0 lines epl ++ rest) s' → Q (.ref ac) s') :
    wpAny c.M A (eval (.Attribute (.Name n_self px) n_current_line_u p) (envF c.w.params f L)) Q E s := by
  refine e_attr ?_
  refine b_name B (envF_locals _ _ _) hm h1 h2 (by kernel_rfl) ?_
  exact b_getattr (C := 137) (dx := dx) (od := od) (ox := instObj 137 dx) B (mI 3 rfl) (mI 4 rfl) rfl rfl rfl (ff_ga _) V.cur rfl h
theorem e_lin {px p : Pos} {Q : Value → Shared → Prop} (V : VfD c od W ln ac) (B : Bod c he L m (vfMu c.w.params x dx ac ad ln od items epa t1 t0 lines epl ++ rest) s) (hm : m.lookup n_self = some (.ref x))
    (h1 : (envF c.w.params f L).scope.kind = .function) (h2 : (envF c.w.params f L).kindOf n_self = some .local)
    (h : ∀ s', Bod c he L m (vfMu c.w.params x dx ac ad ln od items epa t1 t0 lines epl ++ rest) s' → Q (.ref ln) s') :
    wpAny c.M A (eval (.Attribute (.Name n_self px) n_lines_u p) (envF c.w.params f L)) Q E s := by
  refine e_attr ?_
  refine b_name B (envF_locals _ _ _) hm h1 h2 (by kernel_rfl) ?_
  exact b_getattr (C := 137) (dx := dx) (od := od) (ox := instObj 137 dx) B (mI 3 rfl) (mI 4 rfl) rfl rfl rfl (ff_ga _) V.lines rfl h
/-- a method of the current line -/
theorem m_cur {name : Str} {g : Addr} {pl : Sem Bool} {Q : Value × List Value → Shared → Prop} (B : Bod c he L m (vfMu c.w.params x dx ac ad ln od items epa t1 t0 lines epl ++ rest) s)
    (hf : findIn (KS c.w.params) (.ref 221) name = some (some (.ref g))) (ht : typeIn (KS c.w.params) (.ref g) = some (.type "function")) (hs : shadowIn (some (acD c.w.params t1 (.int 0 t0))) name = some false) (h : Q (.ref g, [.ref ac]) s) :
    wpAny c.M A (getMethod (.ref ac) name pl) Q E s :=
  b_method (C := 221) (dx := ad) (od := acD c.w.params t1 (.int 0 t0)) (ox := accO ad items epa) B (mI 0 rfl) (mI 1 rfl) rfl rfl rfl (fa_ga _) can_l (fa_gk _) hf ht tf_f hs h
theorem Bod.acc {ps : List (Str × Str)} (B : Bod c he L m (vfMu c.w.params x dx ac ad ln od items epa t1 t0 lines epl ++ rest) s) (hP : PartsAt s.heap items ps) : AccAt c s.heap ac ad items epa t1 t0 ps :=
  ⟨B.own (ac, accO ad items epa) (mI 0 rfl), B.own (ad, acD c.w.params t1 (.int 0 t0)) (mI 1 rfl), B.lowM (ac, accO ad items epa) (mI 0 rfl), B.lowM (ad, acD c.w.params t1 (.int 0 t0)) (mI 1 rfl), hP⟩
end
end Mine
end
section
namespace Mine
open PySem PySem.W PySem.W.X PyProof.Rows PySem.Calls

theorem sl_lappend : Slot "list" n_append "list.append" := (by kernel_rfl : Str.ofString "append" = n_append) ▸ F.slot_list_append
theorem ml_append {c : Cx} {A : Around} {E : Value → Shared → Prop} {s : Shared} {l : Addr} {items : Array Value} {ep : Nat} {pl : Sem Bool} {Q : Value × List Value → Shared → Prop} (hl : s.heap.get? l = some (lstO items ep))
    (h : Q (.builtin "list.append", [.ref l]) s) : wpAny c.M A (getMethod (.ref l) n_append pl) Q E s :=
  getMethod_builtin (T := "list") ⟨_, hl, rfl⟩ F.plainAttrs_list sl_lappend F.type_list_append (fun a e => by cases e; exact ⟨_, hl, rfl⟩) h

theorem reads2 {h : Heap} {T : Addr} {x y : Str} {t u : Tok} (e : h.get? T = some (tupO [.str x t, .str y u])) : ∃ as, Reads h (.ref T) (.tuple [.str x, .str y]) as :=
  ⟨_, reads_tuple_at e rfl rfl (.cons (.str _ _) (.cons (.str _ _) .nil))⟩
theorem shaped2 {x y : Str} (hx : PyData.strOk x = true) (hy : PyData.strOk y = true) : SeqAt.shaped (.tuple [.str x, .str y]) = true := by
  simp [SeqAt.shaped, PyData.canLay0, PyData.canLayAll0, PyData.depth, PyData.depthAll, hx, hy]
theorem Room.u64 {k : Nat} {A : Around} (R : Room (k + 1) A) : A.units + 64 < cLine := by
  have := R.units
  show A.units + 64 < 9900
  lia

theorem newline_spec {c : Cx} {k : Nat} {A : Around} {s : Shared} {x dx ac ad ln : Addr} {od : Obj} {items lines : Array Value} {v : Value} {epa epl : Nat} {t1 t0 : Tok} {W : Int} {ps : List (Str × Str)} {p : Str × Str} {Q : Value → Shared → Prop} {E : Value → Shared → Prop}
    (I : SInv c s) (R : Room (k + 7) A) (H : Has (vfMu c.w.params x dx ac ad ln od (items.push v) epa t1 t0 lines epl) s) (V : VfD c od W ln ac)
    (hP : PartsAt (Hid (vfMu c.w.params x dx ac ad ln od (items.push v) epa t1 t0 lines epl) s) (items.push v) (ps ++ [p]))
    (hok1 : PyData.strOk p.1 = true) (hok2 : PyData.strOk p.2 = true) (hp2 : p.2 ≠ ⟨⟨[]⟩⟩)
    (hz : ∀ q ∈ ps ++ [p], q.1.length ≤ 10000 ∧ q.2.length ≤ 10000) (hn : (ps ++ [p]).length ≤ 100) (ht : tot (ps ++ [p]) ≠ 0) (hsp : Txt.isspace (lineOf (ps ++ [p])) = false) (hln : lines.size + 1 ≤ sizeLine)
    (h : ∀ epa' t0' epl' t s', MEv c (vfMu c.w.params x dx ac ad ln od (items.push v) epa t1 t0 lines epl) (vfMu c.w.params x dx ac ad ln od #[] epa' t1 t0' (lines.push (.str (lineOf (ps ++ [p])) t)) epl') [] s s' → Q .none s') :
    wpAny c.M A (call (.ref 99) [.ref x]) Q E s := by
  have hne : PyData.eqv (.tuple [.str p.1, .str p.2]) (.tuple [.str ⟨⟨[32]⟩⟩, .str ⟨⟨[]⟩⟩]) = false := by
    simp [PyData.eqv, PyData.eqvAll, hp2]
  obtain ⟨hP0, T, u, u', rfl, hT, hT2⟩ := hP.last
  have hzi : items.size + 1 ≤ sizeLine := by
    have h1 := hP.1
    rw [Array.size_push] at h1
    rw [h1, sizeLine_val]; lia
  refine enterM [(n_self, .ref x)] I R H (by walk_at "fn") ?_
  intro L s1 eL B R'
  have hzL : (Hid (vfMu c.w.params x dx ac ad ln od (items.push (.ref T)) epa t1 t0 lines epl) s).objs.size ≤ L := by rw [hideAll_size, eL]; exact Nat.le_refl _
  refine sK ?_
  refine wpAny_Assign_Name ?_
  refine c_attr ?_
  refine e_cur (rest := []) V B rfl (by kernel_rfl) (by kernel_rfl) ?_
  intro s2 B2
  refine m_cur (rest := []) B2 (fa_pop _) (ft_pop _) (sh_pop _ _ _) ?_
  refine cw_def0 (fo_181 _) (fd_181 _) B2.inv ?_
  refine pop_spec B2.inv R' (Bod.has (rest := [(ln, lstO lines epl), (x, instObj 137 dx), (dx, od)]) B2) (Nat.le_of_succ_le hzi) ?_
  intro ep3 s3 M3
  have B3 := B2.turned (rest := [(ln, lstO lines epl), (x, instObj 137 dx), (dx, od)]) M3
  refine b_store B3 (envF_locals _ _ _) (by kernel_rfl) (by kernel_rfl) ?_
  intro s4 B4
  dsimp only [seqK]
  refine sK ?_
  refine wpAny_If ?_
  refine wpAny_isTrue_Compare1 ?_
  walk_at "nm"
  refine e_tuple ?_
  refine a_cons ?_
  refine b_str B4 ?_
  intro t5 s5 B5
  refine a_cons ?_
  refine b_str B5 ?_
  intro t6 s6 B6
  refine a_nil ?_
  refine ⟨by walk_at "sz", _, _, _, _, B6, ?_⟩
  intro q s7 B7 hq
  obtain ⟨as, hr⟩ := reads2 (B7.keep _ _ hT)
  obtain ⟨bs, hr2⟩ := reads2 (B7.own (q, tupO [.str ⟨⟨[32]⟩⟩ t5, .str ⟨⟨[]⟩⟩ t6]) (mI 0 rfl))
  refine ne_dataH hr hr2 (shaped2 hok1 hok2) (shaped2 (by kernel_rfl) (by kernel_rfl)) R'.u64 ?_
  refine b_bool ?_
  rw [hne]
  simp only [Bool.not_false, if_true]
  have B7 := B7.perm (mu' := [(ac, accO ad items ep3), (ad, acD c.w.params t1 (.int 0 t0)), (ln, lstO lines epl), (x, instObj 137 dx), (dx, od), (q, tupO [.str ⟨⟨[32]⟩⟩ t5, .str ⟨⟨[]⟩⟩ t6])]) (List.perm_append_comm (l₁ := [_]) (l₂ := [_, _, _, _, _]))
  refine sK ?_
  refine wpAny_Expr ?_
  refine c_attrS ?_
  refine e_cur (rest := [(q, tupO [.str ⟨⟨[32]⟩⟩ t5, .str ⟨⟨[]⟩⟩ t6])]) V B7 rfl (by kernel_rfl) (by kernel_rfl) ?_
  intro s8 B8
  have J8 : PySem.W.InstAt s8.heap ac (accO ad items ep3) 221 (some (acD c.w.params t1 (.int 0 t0))) := ⟨B8.own (ac, accO ad items ep3) (mI 0 rfl), rfl, rfl, B8.own (ad, acD c.w.params t1 (.int 0 t0)) (mI 1 rfl)⟩
  refine get_Lbind (f := 165) (of := oF c.w.params 165) B8.inv.kin J8 (fa_mro _) (fa_ga _) (fa_gk _) (by kernel_rfl) (inK B8.inv (fo_165 _)) (by kernel_rfl) ?_
  have B9 := B8.push (methodObj (.ref 165) (.ref ac)) (s8.toks + 1)
  have hq9 : (s8.heap.push (methodObj (.ref 165) (.ref ac))).get? s8.heap.objs.size = some (methodObj (.ref 165) (.ref ac)) := Heap.get?_push_size _ rfl
  refine cw_star (f := 165) (x := ac) (by kernel_rfl) ?_
  walk_at "nm"
  refine star_tup (B9.keep _ _ hT) (by walk_at "sz") ?_
  intro h10 k10
  have B10 := B9.kept (t := s8.toks + 1) k10 hzL
  refine ⟨k10 _ _ hq9, B10.inv.kin, ?_⟩
  refine push_code B10.inv R' (Bod.has (rest := [(ln, lstO lines epl), (x, instObj 137 dx), (dx, od), (q, tupO [.str ⟨⟨[32]⟩⟩ t5, .str ⟨⟨[]⟩⟩ t6])]) B10) (sh_append _ _ _) hzi ?_
  intro p1 ep11 s11 M11
  have B11 := B10.turned (rest := [(ln, lstO lines epl), (x, instObj 137 dx), (dx, od), (q, tupO [.str ⟨⟨[32]⟩⟩ t5, .str ⟨⟨[]⟩⟩ t6])]) M11
  clear B B2 B3 B4 B5 B6 B7 B8 B9 B10
  have B11 := B11.perm (mu' := vfMu c.w.params x dx ac ad ln od (items.push (.ref p1)) ep11 t1 t0 lines epl ++ [(p1, tupO [.str p.1 u, .str p.2 u']), (q, tupO [.str ⟨⟨[32]⟩⟩ t5, .str ⟨⟨[]⟩⟩ t6])]) (List.Perm.cons _ (List.Perm.cons _ (List.perm_append_comm (l₁ := [_]) (l₂ := [_, _, _]) |>.append_right [_])))
  have a11 : ∀ s', Bod c (Hid (vfMu c.w.params x dx ac ad ln od (items.push (.ref T)) epa t1 t0 lines epl) s) L [(n_end_of_line, .ref T), (n_self, .ref x)] (vfMu c.w.params x dx ac ad ln od (items.push (.ref p1)) ep11 t1 t0 lines epl ++ [(p1, tupO [.str p.1 u, .str p.2 u']), (q, tupO [.str ⟨⟨[32]⟩⟩ t5, .str ⟨⟨[]⟩⟩ t6])]) s' →
      AccAt c s'.heap ac ad (items.push (.ref p1)) ep11 t1 t0 (ps ++ [p]) := fun s' B' =>
    B'.acc ((hP0.mono B'.keep).snoc (B'.own (p1, tupO [.str p.1 u, .str p.2 u']) (mI 5 rfl)) (B'.lowM (p1, tupO [.str p.1 u, .str p.2 u']) (mI 5 rfl)))
  dsimp only [seqK]
  refine wpAny_execs_nil ?_
  dsimp only [seqK]
  refine sK ?_
  refine wpAny_If ?_
  refine wpAny_isTrue_Compare1 ?_
  refine c_name ?_
  refine b_glob B11 (gv_len _) (by kernel_rfl) (by kernel_rfl) (by kernel_rfl) (by kernel_rfl) (by kernel_rfl) ?_
  refine cw_builtin ?_
  refine a_cons ?_
  refine e_cur (rest := [(p1, tupO [.str p.1 u, .str p.2 u']), (q, tupO [.str ⟨⟨[32]⟩⟩ t5, .str ⟨⟨[]⟩⟩ t6])]) V B11 rfl (by kernel_rfl) (by kernel_rfl) ?_
  intro s12 B12
  refine a_nil ?_
  refine len_acc B12.inv R' (a11 _ B12) hz hn ?_
  intro t13 s13 E13
  have B13 := B12.after E13
  refine b_int B13 ?_
  intro t14 s14 B14
  refine P.gt_int ?_
  refine b_bool ?_
  have hgt : decide (tot (ps ++ [p]) > 0) = true := decide_eq_true (by have := tot_lt (ps ++ [p]) hz; lia)
  rw [hgt]
  refine (if_pos rfl).mpr ?_
  refine sK ?_
  refine wpAny_If ?_
  refine wpAny_isTrue_BoolOp ?_
  refine wpAny_allTrue_And_cons ?_
  refine wpAny_isTrue_value ?_
  refine c_attr ?_
  refine e_cur (rest := [(p1, tupO [.str p.1 u, .str p.2 u']), (q, tupO [.str ⟨⟨[32]⟩⟩ t5, .str ⟨⟨[]⟩⟩ t6])]) V B14 rfl (by kernel_rfl) (by kernel_rfl) ?_
  intro s15 B15
  refine m_cur (rest := [(p1, tupO [.str p.1 u, .str p.2 u']), (q, tupO [.str ⟨⟨[32]⟩⟩ t5, .str ⟨⟨[]⟩⟩ t6])]) B15 (fa_is_onlyws _) (ft_is_onlyws _) (sh_is_onlyws _ _ _) ?_
  refine cw_def0 (fo_210 _) (fd_210 _) B15.inv ?_
  refine onlyws_spec B15.inv R' (a11 _ B15) hz hn ht hsp ?_
  intro s16 E16
  have B16 := B15.after E16
  refine b_bool ?_
  refine (if_neg Bool.false_ne_true).mpr ?_
  refine (if_neg Bool.false_ne_true).mpr ?_
  refine sK ?_
  refine wpAny_Expr ?_
  refine c_attr ?_
  refine e_lin (rest := [(p1, tupO [.str p.1 u, .str p.2 u']), (q, tupO [.str ⟨⟨[32]⟩⟩ t5, .str ⟨⟨[]⟩⟩ t6])]) V B16 rfl (by kernel_rfl) (by kernel_rfl) ?_
  intro s17 B17
  refine ml_append (B17.own (ln, lstO lines epl) (mI 2 rfl)) ?_
  refine cw_builtin ?_
  refine a_cons ?_
  refine c_name ?_
  refine b_glob B17 (gv_str _) (by kernel_rfl) (by kernel_rfl) (by kernel_rfl) (by kernel_rfl) (by kernel_rfl) ?_
  refine cw_type ?_
  refine a_cons ?_
  refine e_cur (rest := [(p1, tupO [.str p.1 u, .str p.2 u']), (q, tupO [.str ⟨⟨[32]⟩⟩ t5, .str ⟨⟨[]⟩⟩ t6])]) V B17 rfl (by kernel_rfl) (by kernel_rfl) ?_
  intro s18 B18
  refine a_nil ?_
  refine str_acc B18.inv R' (a11 _ B18) hz hn ?_
  intro t19 s19 E19
  have B19 := B18.after E19
  refine a_nil ?_
  refine b_append (pre := [(ac, accO ad (items.push (.ref p1)) ep11), (ad, acD c.w.params t1 (.int 0 t0))]) (post := [(x, instObj 137 dx), (dx, od), (p1, tupO [.str p.1 u, .str p.2 u']), (q, tupO [.str ⟨⟨[32]⟩⟩ t5, .str ⟨⟨[]⟩⟩ t6])]) B19 rfl hln ?_
  intro epl' s20 B20
  have B20 : Bod c (Hid (vfMu c.w.params x dx ac ad ln od (items.push (.ref T)) epa t1 t0 lines epl) s) L [(n_end_of_line, .ref T), (n_self, .ref x)] (vfMu c.w.params x dx ac ad ln od (items.push (.ref p1)) ep11 t1 t0 (lines.push (.str (lineOf (ps ++ [p])) t19)) epl' ++ [(p1, tupO [.str p.1 u, .str p.2 u']), (q, tupO [.str ⟨⟨[32]⟩⟩ t5, .str ⟨⟨[]⟩⟩ t6])]) s20 := B20
  clear B11 B12 B13 B14 B15 B16 B17 B18 B19
  dsimp only [seqK]
  refine wpAny_execs_nil ?_
  dsimp only [seqK]
  refine wpAny_execs_nil ?_
  dsimp only [seqK]
  refine sK ?_
  refine wpAny_Expr ?_
  refine c_attr ?_
  refine e_cur (rest := [(p1, tupO [.str p.1 u, .str p.2 u']), (q, tupO [.str ⟨⟨[32]⟩⟩ t5, .str ⟨⟨[]⟩⟩ t6])]) V B20 rfl (by kernel_rfl) (by kernel_rfl) ?_
  intro s21 B21
  refine m_cur (rest := [(p1, tupO [.str p.1 u, .str p.2 u']), (q, tupO [.str ⟨⟨[32]⟩⟩ t5, .str ⟨⟨[]⟩⟩ t6])]) B21 (fa_reset _) (ft_reset _) (sh_reset _ _ _) ?_
  refine cw_def0 (fo_203 _) (fd_203 _) B21.inv ?_
  refine reset0_spec B21.inv R' (Bod.has (rest := [(ln, lstO (lines.push (.str (lineOf (ps ++ [p])) t19)) epl'), (x, instObj 137 dx), (dx, od), (p1, tupO [.str p.1 u, .str p.2 u']), (q, tupO [.str ⟨⟨[32]⟩⟩ t5, .str ⟨⟨[]⟩⟩ t6])]) B21) (by rw [Array.size_push]; exact hzi) ?_
  intro t0' ep22 s22 M22
  have B22 := B21.turned (rest := [(ln, lstO (lines.push (.str (lineOf (ps ++ [p])) t19)) epl'), (x, instObj 137 dx), (dx, od), (p1, tupO [.str p.1 u, .str p.2 u']), (q, tupO [.str ⟨⟨[32]⟩⟩ t5, .str ⟨⟨[]⟩⟩ t6])]) M22
  dsimp only [seqK]
  refine wpAny_execs_nil ?_
  exact h ep22 t0' epl' t19 s22 (Bod.mev (mu' := vfMu c.w.params x dx ac ad ln od #[] ep22 t1 t0' (lines.push (.str (lineOf (ps ++ [p])) t19)) epl') (nw := []) (rest := [(p1, tupO [.str p.1 u, .str p.2 u']), (q, tupO [.str ⟨⟨[32]⟩⟩ t5, .str ⟨⟨[]⟩⟩ t6])]) B22 rfl (fun _ h => nomatch h))
end Mine
end
section
namespace Mine
open PySem PySem.W PySem.W.X PyProof.Rows PySem.Calls

theorem strsAre_append : ∀ {vs ws : List Value} {ys zs : List Str}, StrsAre vs ys → StrsAre ws zs → StrsAre (vs ++ ws) (ys ++ zs)
  | _, _, _, _, .nil, h => h
  | _, _, _, _, .cons y t r, h => .cons y t (strsAre_append r h)

theorem str_u_spec {c : Cx} {k : Nat} {A : Around} {s : Shared} {x dx ac ad ln : Addr} {od : Obj} {items lines : Array Value} {v : Value} {epa epl : Nat} {t1 t0 ts : Tok} {W : Int} {ps : List (Str × Str)} {p : Str × Str} {ls : List Str} {sep : Str} {Q : Value → Shared → Prop} {E : Value → Shared → Prop}
    (I : SInv c s) (R : Room (k + 8) A) (H : Has (vfMu c.w.params x dx ac ad ln od (items.push v) epa t1 t0 lines epl) s) (V : VfD c od W ln ac)
    (hP : PartsAt (Hid (vfMu c.w.params x dx ac ad ln od (items.push v) epa t1 t0 lines epl) s) (items.push v) (ps ++ [p]))
    (hok1 : PyData.strOk p.1 = true) (hok2 : PyData.strOk p.2 = true) (hp2 : p.2 ≠ ⟨⟨[]⟩⟩)
    (hz : ∀ q ∈ ps ++ [p], q.1.length ≤ 10000 ∧ q.2.length ≤ 10000) (hn : (ps ++ [p]).length ≤ 100) (ht : tot (ps ++ [p]) ≠ 0) (hsp : Txt.isspace (lineOf (ps ++ [p])) = false) (hln : lines.size + 1 ≤ sizeLine)
    (hls : StrsAre lines.toList ls) (hjz : ((ls ++ [lineOf (ps ++ [p])]).map (·.length)).sum + (ls ++ [lineOf (ps ++ [p])]).length * sep.length ≤ 16777216)
    (h : ∀ epa' t0' epl' t t2 s', MEv c (vfMu c.w.params x dx ac ad ln od (items.push v) epa t1 t0 lines epl) (vfMu c.w.params x dx ac ad ln od #[] epa' t1 t0' (lines.push (.str (lineOf (ps ++ [p])) t)) epl') [] s s' → Q (.str (Txt.join sep (ls ++ [lineOf (ps ++ [p])])) t2) s') :
    wpAny c.M A (call (.ref 85) [.ref x, .str sep ts]) Q E s := by
  refine enterM [(n_linesep, .str sep ts), (n_self, .ref x)] I R H (by walk_at "fn") ?_
  intro L s1 eL B R'
  refine sK ?_
  refine wpAny_Expr ?_
  refine c_attr ?_
  walk_at "nm"
  refine b_method (f := .ref 99) (C := 137) (dx := dx) (od := od) (ox := instObj 137 dx) B (mI 3 rfl) (mI 4 rfl) rfl rfl rfl (ff_ga _) can_o (ff_gk _) (ff_newline _) (ft_newline _) tf_f V.sh1 ?_
  refine cw_def0 (fo_99 _) (fd_99 _) B.inv ?_
  have hP1 : PartsAt (Hid (vfMu c.w.params x dx ac ad ln od (items.push v) epa t1 t0 lines epl) s1) (items.push v) (ps ++ [p]) := by
    refine hP.mono fun b o e => hideAll_get _ (B.keep b o e) fun hm => ?_
    rw [hideAll_none _ hm] at e; cases e
  refine newline_spec B.inv R' (Bod.has (rest := []) B) V hP1 hok1 hok2 hp2 hz hn ht hsp hln ?_
  intro epa' t0' epl' t s2 M2
  have B2 := B.turned (rest := []) M2
  dsimp only [seqK]
  refine sK ?_
  refine wpAny_Return_some ?_
  refine c_attr ?_
  walk_at "nm"
  with_reducible refine ms_join ?_
  refine cw_builtin ?_
  refine a_cons ?_
  refine e_lin (rest := []) V B2 rfl (by kernel_rfl) (by kernel_rfl) ?_
  intro s3 B3
  refine a_nil ?_
  refine join_list (ys := ls ++ [lineOf (ps ++ [p])]) ⟨_, B3.own (ln, lstO (lines.push (.str (lineOf (ps ++ [p])) t)) epl') (mI 2 rfl), rfl, _, rfl⟩ ?_ hjz ?_
  · rw [Array.toList_push]
    exact strsAre_append hls (.cons _ _ .nil)
  · intro t2 k9
    exact h epa' t0' epl' t t2 _ (Bod.mev (mu' := vfMu c.w.params x dx ac ad ln od #[] epa' t1 t0' (lines.push (.str (lineOf (ps ++ [p])) t)) epl') (nw := []) (rest := []) (B3.toks k9) rfl (fun _ h => nomatch h))
end Mine
end
section
namespace Mine
open PySem PySem.W PySem.W.X PyProof.Rows PySem.Calls

namespace Bod
variable {c : Cx} {he : Heap} {L : Addr} {m : List (Str × Value)} {mu pre post : List (Addr × Obj)} {s : Shared} {h' : Heap} {t : Nat} {it : Addr} {o o' : Obj}
/-- one object of the ledger turned by somebody else -/
theorem turn1 (B : Bod c he L m (pre ++ (it, o) :: post) s) (hs : Heap.SameBut it s.heap h') (e : h'.get? it = some o') : Bod c he L m (pre ++ (it, o') :: post) { s with heap := h', toks := t } := by
  have hlow : 270 ≤ it := B.lowM (it, o) (by simp)
  have hnod := B.nod
  simp only [List.map_append, List.map_cons, List.nodup_cons, List.mem_append, List.mem_cons, not_or] at hnod
  obtain ⟨⟨hL1, hL2, hL3⟩, hn2⟩ := hnod
  rw [List.nodup_append] at hn2
  obtain ⟨_, hn3, hn4⟩ := hn2
  rw [List.nodup_cons] at hn3
  have hpre : ∀ p ∈ pre, p.1 ≠ it := fun p hp => hn4 p.1 (List.mem_map_of_mem hp) it (List.mem_cons_self ..)
  have hpost : ∀ p ∈ post, p.1 ≠ it := fun p hp q => hn3.1 (q ▸ List.mem_map_of_mem hp)
  have mm : ∀ (P : Addr → Prop), (∀ p ∈ pre ++ (it, o) :: post, P p.1) → ∀ p ∈ pre ++ (it, o') :: post, P p.1 := fun P h p hp => by
    rcases List.mem_append.mp hp with q | q
    · exact h p (List.mem_append_left _ q)
    · rcases List.mem_cons.mp q with rfl | q
      · exact h (it, o) (by simp)
      · exact h p (List.mem_append_right _ (.tail _ q))
  refine ⟨B.inv.same hlow hs, B.ns.sameBut hs hL2, fun b x q => ?_, B.hidT, B.hidL, mm (fun b => he.get? b = none) B.hidM, ?_, ?_, B.lowL, mm (fun b => 270 ≤ b) B.lowM, ?_⟩
  · refine (hs.2 b fun z => ?_).trans (B.keep b x q)
    have := B.hidM (it, o) (by simp)
    rw [← z, q] at this; cases this
  · intro p hp
    rcases List.mem_append.mp hp with q | q
    · exact (hs.2 _ (hpre p q)).trans (B.own p (List.mem_append_left _ q))
    · rcases List.mem_cons.mp q with rfl | q
      · exact e
      · exact (hs.2 _ (hpost p q)).trans (B.own p (List.mem_append_right _ (.tail _ q)))
  · have := B.nod; simpa only [List.map_append, List.map_cons] using this
  · show he.objs.size ≤ h'.objs.size
    rw [hs.1]; exact B.size

/-- an object of the ledger let go -/
theorem ext1 (B : Bod c he L m ((it, o) :: mu) s) (hx : Heap.ExtBut it s.heap h') (hz : he.objs.size ≤ L) : Bod c he L m mu { s with heap := h', toks := t } := by
  have hlow : 270 ≤ it := B.lowM (it, o) (mI 0 rfl)
  have hnod := B.nod
  simp only [List.map_cons, List.nodup_cons, List.mem_cons, not_or] at hnod
  obtain ⟨⟨hL1, hL2⟩, hm1, hm2⟩ := hnod
  have kp : ∀ b o, b < 270 → s.heap.get? b = some o → h'.get? b = some o := fun b o hb e => hx b o (fun q => absurd (q ▸ hb) (Nat.not_lt.mpr hlow)) e
  have hn : h'.Ns L (fun x => m.lookup x) := by
    obtain ⟨oL, es, ep, ho, r⟩ := B.ns
    exact ⟨oL, es, ep, hx _ _ hL1 ho, r⟩
  have hl := hn.lt
  have I : SInv c { s with heap := h', toks := t } :=
    ⟨fun b o e => kp b o (KS_lt e) (B.inv.kin b o e), oldK_low B.inv.old (Nat.le_of_eq c.szB) kp, Nat.le_trans B.lowL (Nat.le_of_lt hl), B.inv.t47.low kp (by decide) (by decide), B.inv.t183.low kp (by decide) (by decide), B.inv.t190.low kp (by decide) (by decide), B.inv.bare, B.inv.os⟩
  refine ⟨I, hn, fun b o' e => hx b o' (fun q => ?_) (B.keep _ _ e), B.hidT, B.hidL, fun p hp => B.hidM p (List.mem_cons_of_mem _ hp), fun p hp => hx _ _ (fun q => hm1 (q ▸ List.mem_map_of_mem hp)) (B.own p (List.mem_cons_of_mem _ hp)), ?_, B.lowL, fun p hp => B.lowM p (List.mem_cons_of_mem _ hp), Nat.le_trans hz (Nat.le_of_lt hl)⟩
  · have := B.hidM (it, o) (mI 0 rfl)
    rw [← q, e] at this; cases this
  · rw [List.nodup_cons]; exact ⟨hL2, hm2⟩
end Bod

noncomputable abbrev rngO (x left : Int) : Obj := { cls := .type "range_iterator", dict := none, data := .fields #[rawInt x, rawInt left, rawInt (-1)], slots := #[] }

/-- the last sign is a semicolon -/
noncomputable def endsSemi (x : Str) : Bool := x.cps.toList.getLast? == some 59
/-- the place where a row is cut: the last part but one and so on that ends with a semicolon -/
noncomputable def splitFrom (ps : List (Str × Str)) : Nat → Option Nat
  | 0 => none
  | j + 1 => if (ps[j]?.any fun p => endsSemi p.2) then some (j + 1) else splitFrom ps j

/-- a subscript of a value of a builtin type -/
theorem e_sub {c : Cx} {A : Around} {E : Value → Shared → Prop} {s : Shared} {env : Env} {value slice : Expr} {pos : Pos} {Q : Value → Shared → Prop} (T id : String) (hlk : typeLookup (.type T) "__getitem__" = pure (some (.builtin id)))
    (h : wpAny c.M A (eval value env) (fun o s₁ => wpAny c.M A (eval slice env) (fun iv s₂ => s₂.TypeIs o T ∧ wpAny c.M A (getItem o iv) Q E s₂) E s₁) E s) : wpAny c.M A (eval (.Subscript value slice pos) env) Q E s := by
  rw [eval_Subscript]
  refine wpAny_bind (wpAny_mono h (fun o s₁ h₁ => wpAny_bind (wpAny_holding (wpAny_mono h₁ (fun iv s₂ h₂ => wpAny_bind (wpAny_standAt ?_)) fun _ _ e => e))) fun _ _ e => e)
  obtain ⟨hTT, hg⟩ := h₂
  refine wpAny_bind ?_
  rw [getitemInPython_of_ne hTT.not_modules]
  refine wpAny_bind (wpAny_specialOf hTT hlk ?_)
  refine wpAny_pure ?_
  have fin : wpAny c.M A (getItem o iv) (fun r s₃ => wpAny c.M A (letTemporaryGo value o r >>= fun _ => pure r) Q E s₃) E s₂ :=
    wpAny_mono hg (fun v s' hv => wpAny_bind (wpAny_letTemporaryGo (wpAny_pure hv))) fun _ _ e => e
  unfold subscripted
  split
  · exact wpAny_bind (wpAny_operating fin)
  · rename_i q; cases q
  · exact wpAny_bind (wpAny_operating fin)
theorem lk_tup : typeLookup (.type "tuple") "__getitem__" = pure (some (.builtin "tuple.__getitem__")) := F.slot_tuple_getitem.lookup
theorem lk_lst : typeLookup (.type "list") "__getitem__" = pure (some (.builtin "list.__getitem__")) := F.slot_list_getitem.lookup
theorem lk_str : typeLookup (.type "str") "__getitem__" = pure (some (.builtin "str.__getitem__")) := F.slot_str_getitem.lookup
end Mine
end
section
namespace Mine
open PySem PySem.W PySem.W.X PyProof.Rows PySem.Calls

section
variable {c : Cx} {A : Around} {he : Heap} {L : Addr} {mu : List (Addr × Obj)} {env : Env} {it : Addr} {body orelse : List Stmt} {R : Result → Shared → Prop} {x : Str} {px : Pos}
/-- a loop over range(n, 0, -1) -/
theorem down_loop (K : Nat → List (Str × Value) → Prop) (hh : A.handled = none) (hL : env.locals = L) (hk : env.scope.kind = .function) (hl : env.kindOf x = some .local) (hz : he.objs.size ≤ L)
    (turn : ∀ (j : Nat) m s t, K (j + 1) m → Bod c he L ((x, .int (Int.ofNat (j + 1)) t) :: m) ((it, rngO j j) :: mu) s →
      wpAny c.M A (execs body env) (fun f s₃ => match f with
          | .next | .cont => ∃ m', K j m' ∧ Bod c he L m' ((it, rngO j j) :: mu) s₃
          | .brk => R (.ok .next) s₃
          | .ret v => R (.ok (.ret v)) s₃) (notedBy c.M A env fun e s' => R (.error e) s') s)
    (done : ∀ m s, K 0 m → Bod c he L m mu s → wpAny c.M A (execs orelse env) (fun f s₃ => R (.ok f) s₃) (notedBy c.M A env fun e s' => R (.error e) s') s)
    {n : Nat} {m : List (Str × Value)} {s : Shared} (h0 : K n m) (B : Bod c he L m ((it, rngO n n) :: mu) s) : codeAny c.M A (.forLoop (.Name x px) (.ref it) body orelse env) R s := by
  refine codeAny_forLoop (fun k s => ∃ m, K k m ∧ Bod c he L m ((it, rngO k k) :: mu) s) ?_ n ⟨m, h0, B⟩
  rintro k s ⟨m, hK, B⟩
  have hit : IsRangeIter s.heap it k k (-1) := B.own (it, rngO k k) (mI 0 rfl)
  cases k with
  | zero =>
    refine wpAny_pyNext_range_end hh hit (by decide) ?_
    intro h' hx
    exact done m _ hK (B.ext1 (t := s.toks) hx hz)
  | succ j =>
    refine wpAny_pyNext_range_item hit (by omega) ?_
    intro h' hit' hs
    have e1 : ((j + 1 : Nat) : Int) + (-1) = (j : Int) := by omega
    have e2 : ((j + 1 : Nat) : Int) - 1 = (j : Int) := by omega
    rw [e1, e2] at hit'
    have B1 := B.turn1 (pre := []) (t := s.toks + 1) hs hit'
    dsimp only
    refine wpAny_assign_Name ?_
    refine b_store B1 hL hk hl ?_
    intro s2 B2
    refine wpAny_mono (turn j m s2 s.toks hK B2) (fun f s₃ h₃ => ?_) fun _ _ e => e
    cases f with
    | next => obtain ⟨m', a, b⟩ := h₃; exact ⟨j, Nat.lt_succ_self _, m', a, b⟩
    | cont => obtain ⟨m', a, b⟩ := h₃; exact ⟨j, Nat.lt_succ_self _, m', a, b⟩
    | brk => exact h₃
    | ret v => exact h₃

noncomputable abbrev strItO (x : Str) (t : Tok) (i : Nat) : Obj := ⟨.type "str_ascii_iterator", none, .fields #[.str x t, .int i 0], #[]⟩
/-- a loop over one sign -/
theorem one_loop {ch : Nat} {t0 : Tok} (hh : A.handled = none) (hL : env.locals = L) (hk : env.scope.kind = .function) (hl : env.kindOf x = some .local) (hz : he.objs.size ≤ L)
    {m : List (Str × Value)} {s : Shared} (B : Bod c he L m ((it, strItO ⟨#[ch]⟩ t0 0) :: mu) s)
    (turn : ∀ o s t, Bod c he L ((x, .str ⟨#[ch]⟩ t) :: m) ((it, o) :: mu) s →
      wpAny c.M A (execs body env) (fun f s₃ => match f with
          | .next | .cont => ∃ m', Bod c he L m' ((it, o) :: mu) s₃ ∧ ∀ s₄, Bod c he L m' mu s₄ → wpAny c.M A (execs orelse env) (fun f s₃ => R (.ok f) s₃) (notedBy c.M A env fun e s' => R (.error e) s') s₄
          | .brk => R (.ok .next) s₃
          | .ret v => R (.ok (.ret v)) s₃) (notedBy c.M A env fun e s' => R (.error e) s') s) : codeAny c.M A (.forLoop (.Name x px) (.ref it) body orelse env) R s := by
  refine codeAny_forLoop (fun k s' => (k = 1 ∧ s' = s) ∨ (k = 0 ∧ ∃ o m', o.cls = .type "str_ascii_iterator" ∧ o.data = .fields #[.str ⟨#[ch]⟩ t0, .int 1 0] ∧ Bod c he L m' ((it, o) :: mu) s' ∧ ∀ s₄, Bod c he L m' mu s₄ → wpAny c.M A (execs orelse env) (fun f s₃ => R (.ok f) s₃) (notedBy c.M A env fun e s' => R (.error e) s') s₄)) ?_ 1 (.inl ⟨rfl, rfl⟩)
  rintro k s' (⟨rfl, rfl⟩ | ⟨rfl, o, m', hc, hd, B', hD⟩)
  · have hit : s'.heap.IsStrIter it "str_ascii_iterator" ⟨#[ch]⟩ t0 0 := ⟨_, B.own (it, strItO ⟨#[ch]⟩ t0 0) (mI 0 rfl), rfl, rfl⟩
    refine wpAny_pyNext_ascii_item (c := ch) hit (by rfl) ?_
    intro h' hit' hs
    refine hG fun zP zK => ?_
    obtain ⟨o, ho, hc, hd⟩ := hit'
    refine zK ?_
    have B1 := B.turn1 (pre := []) (t := s'.toks + 1) hs ho
    dsimp only
    refine wpAny_assign_Name ?_
    refine b_store B1 hL hk hl ?_
    intro s2 B2
    refine wpAny_mono (turn o s2 s'.toks B2) (fun f s₃ h₃ => ?_) fun _ _ e => e
    cases f with
    | next => obtain ⟨m', a, b⟩ := h₃; exact ⟨0, Nat.one_pos, .inr ⟨rfl, o, m', hc, hd, a, b⟩⟩
    | cont => obtain ⟨m', a, b⟩ := h₃; exact ⟨0, Nat.one_pos, .inr ⟨rfl, o, m', hc, hd, a, b⟩⟩
    | brk => exact h₃
    | ret v => exact h₃
  · have hit : s'.heap.IsStrIter it "str_ascii_iterator" ⟨#[ch]⟩ t0 1 := ⟨_, B'.own (it, o) (mI 0 rfl), hc, hd⟩
    refine wpAny_pyNext_ascii_end hh hit (by rfl) ?_
    intro h' hx
    exact hD _ (B'.ext1 (t := s'.toks) hx hz)
end
end Mine
end
section
namespace Mine
open PySem PySem.W PySem.W.X PyProof.Rows PySem.Calls

theorem push_spec' {c : Cx} {k : Nat} {A : Around} {s : Shared} {x d : Addr} {items : Array Value} {ep : Nat} {od : Obj} {f g : Value} {Q : Value → Shared → Prop} {E : Value → Shared → Prop}
    (I : SInv c s) (R : Room (k + 1) A) (H : Has [(x, accO d items ep), (d, od)] s) (hod : shadowIn (some od) n_append = some false) (hz : items.size + 1 ≤ sizeLine)
    (h : ∀ p ep' s', MEv c [(x, accO d items ep), (d, od)] [(x, accO d (items.push (.ref p)) ep'), (d, od)] [(p, tupO [f, g])] s s' → Q .none s') :
    wpAny c.M A (call (.ref 165) [.ref x, f, g]) Q E s := wpAny_call (push_code I R H hod hz h)

section
variable {c : Cx} {he : Heap} {L : Addr} {m : List (Str × Value)} {mu : List (Addr × Obj)} {s : Shared} {A : Around} {E : Value → Shared → Prop} {x dx ac ad ln : Addr} {od : Obj} {items : Array Value} {epa : Nat} {t1 t0 : Tok} {W : Int} {f : Addr}
theorem e_curM {px p : Pos} {Q : Value → Shared → Prop} (V : VfD c od W ln ac) (B : Bod c he L m mu s) (hx : (x, instObj 137 dx) ∈ mu) (hd : (dx, od) ∈ mu) (hm : m.lookup n_self = some (.ref x))
    (h1 : (envF c.w.params f L).scope.kind = .function) (h2 : (envF c.w.params f L).kindOf n_self = some .local) (h : ∀ s', Bod c he L m mu s' → Q (.ref ac) s') :
    wpAny c.M A (eval (.Attribute (.Name n_self px) n_current_line_u p) (envF c.w.params f L)) Q E s := by
  refine e_attr ?_
  refine b_name B (envF_locals _ _ _) hm h1 h2 (by kernel_rfl) ?_
  exact b_getattr (C := 137) (dx := dx) (od := od) (ox := instObj 137 dx) B hx hd rfl rfl rfl (ff_ga _) V.cur rfl h
theorem m_curM {name : Str} {g : Addr} {pl : Sem Bool} {Q : Value × List Value → Shared → Prop} (B : Bod c he L m mu s) (hx : (ac, accO ad items epa) ∈ mu) (hd : (ad, acD c.w.params t1 (.int 0 t0)) ∈ mu)
    (hf : findIn (KS c.w.params) (.ref 221) name = some (some (.ref g))) (ht : typeIn (KS c.w.params) (.ref g) = some (.type "function")) (hs : shadowIn (some (acD c.w.params t1 (.int 0 t0))) name = some false) (h : Q (.ref g, [.ref ac]) s) :
    wpAny c.M A (getMethod (.ref ac) name pl) Q E s :=
  b_method (C := 221) (dx := ad) (od := acD c.w.params t1 (.int 0 t0)) (ox := accO ad items epa) B hx hd rfl rfl rfl (fa_ga _) can_l (fa_gk _) hf ht tf_f hs h
end

theorem rsize (n : Nat) : Builtin.Range.rangeSize n 0 (-1) = n := by
  unfold Builtin.Range.rangeSize
  rw [if_neg (by decide)]
  by_cases h : (n : Int) > 0
  · rw [if_pos h]
    have : (- -1 : Int) = 1 := rfl
    rw [this, Int.ediv_one]; lia
  · rw [if_neg h]; lia
theorem rsmall {n : Nat} (h : n ≤ 1000000) : Builtin.Range.small n 0 (-1) = true := by
  unfold Builtin.Range.small
  rw [rsize]
  have h1 : Builtin.Range.rangeFitsLong (n : Int) = true := by
    unfold Builtin.Range.rangeFitsLong
    simp only [Bool.and_eq_true, decide_eq_true_eq]
    lia
  rw [h1]
  simp
  exact ⟨⟨by decide, by decide⟩, .inr (by decide)⟩

noncomputable def cut (W : Int) (ps : List (Str × Str)) : Option Nat := if tot ps > W then splitFrom ps (ps.length - 1) else none

theorem splitFrom_no {ps : List (Str × Str)} {j : Nat} {q : Str × Str} (h : ps[j]? = some q) (e : endsSemi q.2 = false) : splitFrom ps (j + 1) = splitFrom ps j := by
  show (if (ps[j]?.any fun p => endsSemi p.2) then some (j + 1) else splitFrom ps j) = _
  rw [h]; simp [e]
theorem splitFrom_yes {ps : List (Str × Str)} {j : Nat} {q : Str × Str} (h : ps[j]? = some q) (e : endsSemi q.2 = true) : splitFrom ps (j + 1) = some (j + 1) := by
  show (if (ps[j]?.any fun p => endsSemi p.2) then some (j + 1) else splitFrom ps j) = _
  rw [h]; simp [e]
theorem endsSemi_empty {x : Str} (h : x.length = 0) : endsSemi x = false := by
  obtain ⟨⟨l⟩⟩ := x
  have : l = [] := List.eq_nil_of_length_eq_zero h
  subst this; rfl
theorem last_item {x : Str} (h : x.length ≠ 0) : ∃ ch, (seqIndex? (-1) x.length).bind (x.cps[·]?) = some ch ∧ endsSemi x = decide (ch = 59) := by
  obtain ⟨⟨l⟩⟩ := x
  have hl : l.length ≠ 0 := h
  have e1 : seqIndex? (-1) l.length = some (l.length - 1) := by
    unfold seqIndex?
    simp only [show ((-1 : Int) < 0) from by decide, if_true]
    rw [if_pos (by simp; lia)]
    congr 1; lia
  have hlt : l.length - 1 < l.length := by lia
  refine ⟨l[l.length - 1], ?_, ?_⟩
  · show (seqIndex? (-1) l.length).bind _ = _
    rw [e1]
    simp
  · unfold endsSemi
    show (l.getLast? == some 59) = _
    rw [List.getLast?_eq_getElem?, List.getElem?_eq_getElem hlt]
    simp only [Option.some_beq_some]
    by_cases q : l[l.length - 1] = 59 <;> simp [q]
theorem strEq1 (a b : Nat) : decide ((⟨#[a]⟩ : Str) = ⟨#[b]⟩) = decide (a = b) := by
  by_cases q : a = b
  · subst q; simp
  · have : ¬ ((⟨#[a]⟩ : Str) = ⟨#[b]⟩) := fun e => q (by injection e with e; simpa using e)
    rw [decide_eq_false this, decide_eq_false q]

theorem PartsAt.take {h : Heap} {items : Array Value} {ps : List (Str × Str)} (a : PartsAt h items ps) (i : Nat) : PartsAt h (items.toList.take i).toArray (ps.take i) := by
  refine ⟨by simp [a.1], fun j p hj => ?_⟩
  rw [List.getElem?_take] at hj
  split at hj
  · rename_i hlt
    refine hG fun zP zK => ?_
    obtain ⟨T, t, t', q, b, e⟩ := a.2 j p hj
    refine zK ?_
    refine ⟨T, t, t', ?_, b, e⟩
    rw [List.getElem?_toArray, List.getElem?_take, if_pos hlt, Array.getElem?_toList]; exact q
  · cases hj

theorem e_linM {c : Cx} {he : Heap} {L : Addr} {m : List (Str × Value)} {mu : List (Addr × Obj)} {s : Shared} {A : Around} {E : Value → Shared → Prop} {x dx ac ln : Addr} {od : Obj} {W : Int} {f : Addr} {px p : Pos} {Q : Value → Shared → Prop} (V : VfD c od W ln ac) (B : Bod c he L m mu s) (hx : (x, instObj 137 dx) ∈ mu) (hd : (dx, od) ∈ mu) (hm : m.lookup n_self = some (.ref x))
    (h1 : (envF c.w.params f L).scope.kind = .function) (h2 : (envF c.w.params f L).kindOf n_self = some .local) (h : ∀ s', Bod c he L m mu s' → Q (.ref ln) s') :
    wpAny c.M A (eval (.Attribute (.Name n_self px) n_lines_u p) (envF c.w.params f L)) Q E s := by
  refine e_attr ?_
  refine b_name B (envF_locals _ _ _) hm h1 h2 (by kernel_rfl) ?_
  exact b_getattr (C := 137) (dx := dx) (od := od) (ox := instObj 137 dx) B hx hd rfl rfl rfl (ff_ga _) V.lines rfl h

theorem chunk_spec {c : Cx} {k : Nat} {A : Around} {s : Shared} {x dx ac ad ln : Addr} {od : Obj} {items lines : Array Value} {epa epl : Nat} {t1 t0 tf tg : Tok} {W : Int} {ps : List (Str × Str)} {f g : Str} {Q : Value → Shared → Prop} {E : Value → Shared → Prop}
    (I : SInv c s) (R : Room (k + 9) A) (H : Has (vfMu c.w.params x dx ac ad ln od items epa t1 t0 lines epl) s) (V : VfD c od W ln ac)
    (hP : PartsAt (Hid (vfMu c.w.params x dx ac ad ln od items epa t1 t0 lines epl) s) items ps)
    (hz : ∀ q ∈ ps ++ [(f, g)], q.1.length ≤ 10000 ∧ q.2.length ≤ 10000) (hn : (ps ++ [(f, g)]).length ≤ 100) (hln : lines.size + 1 ≤ sizeLine)
    (h1 : cut W (ps ++ [(f, g)]) = none → ∀ p epa' s', MEv c (vfMu c.w.params x dx ac ad ln od items epa t1 t0 lines epl) (vfMu c.w.params x dx ac ad ln od (items.push (.ref p)) epa' t1 t0 lines epl) [(p, tupO [.str f tf, .str g tg])] s s' → Q .none s')
    (h2 : ∀ i, cut W (ps ++ [(f, g)]) = some i → ∀ p epa' t0' epl' t s', MEv c (vfMu c.w.params x dx ac ad ln od items epa t1 t0 lines epl) (vfMu c.w.params x dx ac ad ln od ((items.push (.ref p)).toList.drop i).toArray epa' t1 t0' (lines.push (.str (lineOf ((ps ++ [(f, g)]).take i)) t)) epl') [(p, tupO [.str f tf, .str g tg])] s s' → Q .none s') :
    wpAny c.M A (call (.ref 134) [.ref x, .str f tf, .str g tg]) Q E s := by
  have hzi : items.size + 1 ≤ sizeLine := by
    have h1 := hP.1
    rw [h1, sizeLine_val]
    simp at hn; lia
  refine enterM [(n_string, .str g tg), (n_fws, .str f tf), (n_self, .ref x)] I R H (by walk_at "fn") ?_
  intro L s1 eL B R'
  have hzL : (Hid (vfMu c.w.params x dx ac ad ln od items epa t1 t0 lines epl) s).objs.size ≤ L := by rw [hideAll_size, eL]; exact Nat.le_refl _
  refine sK ?_
  refine wpAny_Expr ?_
  refine c_attr ?_
  refine e_cur (rest := []) V B rfl (by kernel_rfl) (by kernel_rfl) ?_
  intro s2 B2
  refine m_cur (rest := []) B2 (fa_push _) (ft_push _) (sh_push _ _ _) ?_
  refine cw_def (fo_165 _) (fd_165 _) ?_
  refine a_cons ?_
  walk_at "nm"
  refine a_cons ?_
  walk_at "nm"
  refine a_nil ?_
  refine ⟨B2.inv, ?_⟩
  refine push_spec' B2.inv R' (Bod.has (rest := [(ln, lstO lines epl), (x, instObj 137 dx), (dx, od)]) B2) (sh_append _ _ _) hzi ?_
  intro p ep3 s3 M3
  have B3 := B2.turned (rest := [(ln, lstO lines epl), (x, instObj 137 dx), (dx, od)]) M3
  have B3 := B3.perm (mu' := vfMu c.w.params x dx ac ad ln od (items.push (.ref p)) ep3 t1 t0 lines epl ++ [(p, tupO [.str f tf, .str g tg])]) (List.Perm.cons _ (List.Perm.cons _ (List.perm_append_comm (l₁ := [_]) (l₂ := [_, _, _]))))
  have hp0 : s.heap.objs.size ≤ p := by
    have h1 := (M3.new (p, tupO [.str f tf, .str g tg]) (mI 0 rfl)).2
    have h2 := B2.size
    rw [hideAll_size] at h2
    exact Nat.le_trans h2 h1
  clear B B2
  have acc : ∀ (m : List (Str × Value)) s' (rest : List (Addr × Obj)), Bod c (Hid (vfMu c.w.params x dx ac ad ln od items epa t1 t0 lines epl) s) L m (vfMu c.w.params x dx ac ad ln od (items.push (.ref p)) ep3 t1 t0 lines epl ++ (p, tupO [.str f tf, .str g tg]) :: rest) s' →
      AccAt c s'.heap ac ad (items.push (.ref p)) ep3 t1 t0 (ps ++ [(f, g)]) := fun m s' rest B' =>
    B'.acc ((hP.mono B'.keep).snoc (p := (f, g)) (B'.own (p, tupO [.str f tf, .str g tg]) (mI 5 rfl)) (B'.lowM (p, tupO [.str f tf, .str g tg]) (mI 5 rfl)))
  dsimp only [seqK]
  refine sK ?_
  refine wpAny_If ?_
  refine wpAny_isTrue_Compare1 ?_
  refine c_name ?_
  refine b_glob B3 (gv_len _) (by kernel_rfl) (by kernel_rfl) (by kernel_rfl) (by kernel_rfl) (by kernel_rfl) ?_
  refine cw_builtin ?_
  refine a_cons ?_
  refine e_cur (rest := [(p, tupO [.str f tf, .str g tg])]) V B3 rfl (by kernel_rfl) (by kernel_rfl) ?_
  intro s4 B4
  refine a_nil ?_
  refine len_acc B4.inv R' (acc _ _ [] B4) hz hn ?_
  intro t5 s5 E5
  have B5 := B4.after E5
  refine e_attr ?_
  refine b_name B5 (envF_locals _ _ _) (by rfl) (by kernel_rfl) (by kernel_rfl) (by kernel_rfl) ?_
  obtain ⟨tw, hW⟩ := V.maxlen
  refine b_getattr (C := 137) (dx := dx) (od := od) (ox := instObj 137 dx) B5 (mI 3 rfl) (mI 4 rfl) rfl rfl rfl (ff_ga _) hW rfl ?_
  intro s6 B6
  refine P.gt_int ?_
  refine b_bool ?_
  clear B3 B4 B5
  by_cases hgt : tot (ps ++ [(f, g)]) > W
  · rw [decide_eq_true hgt]
    refine (if_pos rfl).mpr ?_
    refine qE fun Q0 E0 hQ0 => ?_
    refine sK ?_
    refine wpAny_For ?_
    refine e_attr ?_
    refine b_name B6 (envF_locals _ _ _) (by rfl) (by kernel_rfl) (by kernel_rfl) (by kernel_rfl) ?_
    obtain ⟨tsp, hS⟩ := V.spl
    refine b_getattr (C := 137) (dx := dx) (od := od) (ox := instObj 137 dx) B6 (mI 3 rfl) (mI 4 rfl) rfl rfl rfl (ff_ga _) hS rfl ?_
    intro s7 B7
    refine wpAny_pyIter_ascii (by kernel_rfl) ?_
    have B8 := B7.alloc (strItO ⟨⟨[59]⟩⟩ tsp 0) s7.toks rfl
    generalize s7.heap.objs.size = it1 at B8 ⊢
    refine one_loop R'.handled (envF_locals _ _ _) (by kernel_rfl) (by kernel_rfl) hzL B8 ?_
    intro o9 s9 t9 B9
    clear B6 B7 B8
    refine qE fun Q1 E1 hQ1 => ?_
    refine sK ?_
    refine wpAny_For ?_
    refine c_name ?_
    refine b_glob B9 (by kernel_rfl : gval c.w.params n_range = some (.type "range")) (by kernel_rfl) (by kernel_rfl) (by kernel_rfl) (by kernel_rfl) (by kernel_rfl) ?_
    refine cw_type ?_
    refine a_cons ?_
    refine wpAny_BinOp ?_
    refine c_attr ?_
    refine e_curM (dx := dx) V B9 (mI 4 rfl) (mI 5 rfl) rfl (by kernel_rfl) (by kernel_rfl) ?_
    intro s10 B10
    refine m_curM (ad := ad) (items := items.push (.ref p)) (epa := ep3) (t1 := t1) (t0 := t0) B10 (mI 1 rfl) (mI 2 rfl) (fa_part_count _) (ft_part_count _) (sh_part_count _ _ _) ?_
    refine cw_def0 (fo_218 _) (fd_218 _) B10.inv ?_
    refine count_spec B10.inv R' (B10.own (ac, accO ad (items.push (.ref p)) ep3) (mI 1 rfl)) (B10.own (ad, acD c.w.params t1 (.int 0 t0)) (mI 2 rfl)) (B10.lowM (ac, accO ad (items.push (.ref p)) ep3) (mI 1 rfl)) (B10.lowM (ad, acD c.w.params t1 (.int 0 t0)) (mI 2 rfl)) (nI B10.nod 1 2 rfl rfl rfl) ?_
    intro t11 s11 E11
    have B11 := B10.after E11
    refine b_int B11 ?_
    intro t12 s12 B12
    refine PyProof.Rows.sub_int ?_
    have B12 := B12.toks (s12.toks + 1)
    refine a_cons ?_
    refine b_int B12 ?_
    intro t13 s13 B13
    refine a_cons ?_
    refine wpAny_UnaryOp ?_
    refine b_int B13 ?_
    intro t14 s14 B14
    refine P.neg_int ?_
    have B14 := B14.toks (s14.toks + 1)
    refine a_nil ?_
    have eN : (((items.push (.ref p)).size : Nat) : Int) - 1 = (items.size : Int) := by rw [Array.size_push]; lia
    have hN : items.size ≤ 1000000 := by
      have := hP.1
      simp at hn; lia
    refine call_range_3 (by decide) ?_ ?_
    · rw [eN]
      have B15 := B14.push { cls := .type "range", data := .fields #[.int items.size s12.toks, .int 0 t13, .int (-1) s14.toks] } (s14.toks + 1)
      refine wpAny_pyIter_range (Heap.get?_push_size _ rfl) (rsmall hN) ?_
      rw [rsize]
      have B16 := B15.alloc (rngO items.size items.size) (s14.toks + 1) rfl
      generalize (Heap.push s14.heap { cls := .type "range", data := .fields #[.int items.size s12.toks, .int 0 t13, .int (-1) s14.toks] }).objs.size = it2 at B16 ⊢
      clear B9 B10 B11 B12 B13 B14 B15
      refine down_loop (fun j m => m.lookup n_self = some (.ref x) ∧ m.lookup n_ch = some (.str ⟨#[59]⟩ t9) ∧ splitFrom (ps ++ [(f, g)]) items.size = splitFrom (ps ++ [(f, g)]) j ∧ j ≤ items.size) R'.handled (envF_locals _ _ _) (by kernel_rfl) (by kernel_rfl) hzL ?_ ?_ ⟨rfl, rfl, rfl, Nat.le_refl _⟩ B16
      · intro j m s17 t17 hK B17
        obtain ⟨k1, k2, k3, k4⟩ := hK
        refine qE fun Q2 E2 hQ2 => ?_
        have hsp : Txt.isspace ⟨#[59]⟩ = false := by kernel_rfl
        refine sK ?_
        refine wpAny_If ?_
        refine wpAny_isTrue_value ?_
        refine c_attr ?_
        refine b_name B17 (envF_locals _ _ _) (look_there (by kernel_rfl) k2) (by kernel_rfl) (by kernel_rfl) (by kernel_rfl) ?_
        with_reducible refine ms_isspace ?_
        refine cw_builtin0 ?_
        refine SC.isspace ?_
        rw [hsp]
        refine b_bool ?_
        refine (if_neg Bool.false_ne_true).mpr ?_
        refine wpAny_execs_nil ?_
        dsimp only [seqK]
        refine sK ?_
        refine wpAny_Assign_Name ?_
        refine e_sub "tuple" "tuple.__getitem__" lk_tup ?_
        refine e_subL ?_
        refine e_curM (dx := dx) V B17 (mI 5 rfl) (mI 6 rfl) (look_there (by kernel_rfl) k1) (by kernel_rfl) (by kernel_rfl) ?_
        intro s18 B18
        refine wpAny_BinOp ?_
        refine b_name B18 (envF_locals _ _ _) look_here (by kernel_rfl) (by kernel_rfl) (by kernel_rfl) ?_
        refine b_int B18 ?_
        intro t19 s19 B19
        refine PyProof.Rows.sub_int ?_
        have B19 := B19.toks (s19.toks + 1)
        have pm : List.Perm ((it2, rngO j j) :: (it1, o9) :: (vfMu c.w.params x dx ac ad ln od (items.push (.ref p)) ep3 t1 t0 lines epl ++ [(p, tupO [.str f tf, .str g tg])])) (vfMu c.w.params x dx ac ad ln od (items.push (.ref p)) ep3 t1 t0 lines epl ++ (p, tupO [.str f tf, .str g tg]) :: [(it2, rngO j j), (it1, o9)]) :=
          (List.perm_append_comm (l₁ := [(it2, rngO j j), (it1, o9)]) (l₂ := vfMu c.w.params x dx ac ad ln od (items.push (.ref p)) ep3 t1 t0 lines epl ++ [(p, tupO [.str f tf, .str g tg])]))
        have a19 := acc _ _ [(it2, rngO j j), (it1, o9)] (B19.perm pm)
        have hjl : j < (ps ++ [(f, g)]).length := by rw [← a19.ps.1, Array.size_push]; lia
        refine hG fun zP zK => ?_
        obtain ⟨T, u, u', q1, q2, q3⟩ := a19.ps.2 j _ (List.getElem?_eq_getElem hjl)
        refine zK ?_
        refine ⟨ac, accO ad (items.push (.ref p)) ep3, some (acD c.w.params t1 (.int 0 t0)), rfl, B19.inv.kin, a19.inst, ?_⟩
        refine getInt_body ⟨_, a19.hx, _, rfl⟩ (j := j) (by show ((j + 1 : Nat) : Int) - 1 = (j : Int); lia) q1 (by rw [Array.size_push]; exact hzi) ?_
        refine ⟨_, rfl, ?_⟩
        refine b_int B19 ?_
        intro t20 s20 B20
        have a20 := acc _ _ [(it2, rngO j j), (it1, o9)] (B20.perm pm)
        refine hG fun zP zK => ?_
        obtain ⟨T2, v, v', w1, w2, w3⟩ := a20.ps.2 j _ (List.getElem?_eq_getElem hjl)
        refine zK ?_
        have eT : T2 = T := by rw [q1] at w1; cases w1; rfl
        subst eT
        refine ⟨⟨_, w2, rfl⟩, ?_⟩
        refine PyProof.Rows.getItem_tuple (j := 1) ⟨_, w2, rfl, _, rfl⟩ (by decide) (by decide) (by rfl) (by rfl) ?_
        generalize hq : (ps ++ [(f, g)])[j] = q at *
        have hqs : (ps ++ [(f, g)])[j]? = some q := by rw [List.getElem?_eq_getElem hjl, hq]
        have hqz := hz q (List.mem_of_getElem? hqs)
        refine b_store B20 (envF_locals _ _ _) (by kernel_rfl) (by kernel_rfl) ?_
        intro s21 B21
        clear B17 B18 B19 B20 a19 a20
        dsimp only [seqK]
        refine sK ?_
        refine wpAny_If ?_
        refine wpAny_isTrue_BoolOp ?_
        refine wpAny_allTrue_And_cons ?_
        refine wpAny_isTrue_value ?_
        refine b_name B21 (envF_locals _ _ _) look_here (by kernel_rfl) (by kernel_rfl) (by kernel_rfl) ?_
        refine P.truthy_str (by lia) ?_
        have B22 := B21.toks (s21.toks + 1 + 1)
        clear B21
        have hlk : ∀ (y : Str) v, m.lookup y = some v → (y == n_i) = false → (y == n_prevpart) = false → List.lookup y ((n_prevpart, Value.str q.2 v') :: (n_i, Value.int (Int.ofNat (j + 1)) t17) :: m) = some v := fun y v e e1 e2 => look_there e2 (look_there e1 e)
        by_cases hem : q.2.length = 0
        · have : ((q.2.length : Int) != 0) = false := by rw [hem]; rfl
          rw [this]
          refine (if_neg Bool.false_ne_true).mpr ?_
          refine (if_neg Bool.false_ne_true).mpr ?_
          refine wpAny_execs_nil ?_
          dsimp only [seqK]
          refine wpAny_execs_nil ?_
          refine hQ2 _ _ ?_
          refine ⟨_, ⟨hlk _ _ k1 (by kernel_rfl) (by kernel_rfl), hlk _ _ k2 (by kernel_rfl) (by kernel_rfl), ?_, by lia⟩, B22⟩
          rw [k3]; exact splitFrom_no hqs (endsSemi_empty hem)
        · have : ((q.2.length : Int) != 0) = true := by simpa using hem
          rw [this]
          refine (if_pos rfl).mpr ?_
          refine wpAny_allTrue_And_cons ?_
          refine wpAny_isTrue_Compare1 ?_
          refine e_sub "str" "str.__getitem__" lk_str ?_
          refine b_name B22 (envF_locals _ _ _) look_here (by kernel_rfl) (by kernel_rfl) (by kernel_rfl) ?_
          refine wpAny_UnaryOp ?_
          refine b_int B22 ?_
          intro t23 s23 B23
          refine P.neg_int ?_
          have B23 := B23.toks (s23.toks + 1)
          refine ⟨typeIs_str _ _ _, ?_⟩
          obtain ⟨chr, hc1, hc2⟩ := last_item hem
          refine PyProof.Rows.getItem_str (by decide) hc1 ?_
          have B24 := B23.toks (s23.toks + 1 + 1)
          clear B22 B23
          refine b_name B24 (envF_locals _ _ _) (hlk _ _ k2 (by kernel_rfl) (by kernel_rfl)) (by kernel_rfl) (by kernel_rfl) (by kernel_rfl) ?_
          refine b_eq_str ?_
          refine b_bool ?_
          rw [strEq1, ← hc2]
          by_cases hse : endsSemi q.2 = true
          · rw [hse]
            refine (if_pos rfl).mpr ?_
            refine wpAny_allTrue_And_nil ?_
            refine (if_pos rfl).mpr ?_
            refine sK ?_
            refine wpAny_Break ?_
            refine hQ2 _ _ ?_
            dsimp only [seqK]
            refine sK ?_
            refine wpAny_Break ?_
            refine hQ1 _ _ ?_
            dsimp only [seqK]
            have hcut : cut W (ps ++ [(f, g)]) = some (j + 1) := by
              unfold cut
              rw [if_pos hgt]
              have e9 : (ps ++ [(f, g)]).length - 1 = items.size := by rw [List.length_append, hP.1]; simp
              rw [e9, k3]; exact splitFrom_yes hqs hse
            have B25 := B24.perm (mu' := vfMu c.w.params x dx ac ad ln od (items.push (.ref p)) ep3 t1 t0 lines epl ++ (p, tupO [.str f tf, .str g tg]) :: [(it2, rngO j j), (it1, o9)]) pm
            clear B24 B16
            have hjz : j + 1 ≤ (items.push (.ref p)).size := by rw [Array.size_push]; lia
            refine sK ?_
            refine wpAny_Assign_Name ?_
            refine c_attr ?_
            refine e_curM (dx := dx) V B25 (mI 3 rfl) (mI 4 rfl) (hlk _ _ k1 (by kernel_rfl) (by kernel_rfl)) (by kernel_rfl) (by kernel_rfl) ?_
            intro s26 B26
            refine m_curM (ad := ad) (items := items.push (.ref p)) (epa := ep3) (t1 := t1) (t0 := t0) B26 (mI 0 rfl) (mI 1 rfl) (fa_pop_from _) (ft_pop_from _) (sh_pop_from _ _ _) ?_
            refine cw_def (fo_173 _) (fd_173 _) ?_
            refine a_cons ?_
            refine b_name B26 (envF_locals _ _ _) (look_there (by kernel_rfl) look_here) (by kernel_rfl) (by kernel_rfl) (by kernel_rfl) ?_
            refine a_nil ?_
            refine ⟨B26.inv, ?_⟩
            refine popfrom_spec (j := j + 1) B26.inv R' (Bod.has (rest := [(ln, lstO lines epl), (x, instObj 137 dx), (dx, od)] ++ (p, tupO [.str f tf, .str g tg]) :: [(it2, rngO j j), (it1, o9)]) B26) (by rw [Array.size_push]; exact hzi) hjz ?_
            intro pl ep27 s27 M27
            have B27 := B26.turned (rest := [(ln, lstO lines epl), (x, instObj 137 dx), (dx, od)] ++ (p, tupO [.str f tf, .str g tg]) :: [(it2, rngO j j), (it1, o9)]) M27
            refine b_store B27 (envF_locals _ _ _) (by kernel_rfl) (by kernel_rfl) ?_
            intro s28 B28
            clear B25 B26 B27
            have lk2 : ∀ (y : Str) v, m.lookup y = some v → (y == n_i) = false → (y == n_prevpart) = false → (y == n_remainder) = false → List.lookup y ((n_remainder, Value.ref pl) :: (n_prevpart, Value.str q.2 v') :: (n_i, Value.int (Int.ofNat (j + 1)) t17) :: m) = some v := fun y v e e1 e2 e3 => look_there e3 (hlk y v e e1 e2)
            have hself := lk2 _ _ k1 (by kernel_rfl) (by kernel_rfl) (by kernel_rfl)
            dsimp only [seqK]
            refine sK ?_
            refine wpAny_Expr ?_
            refine c_attr ?_
            refine e_linM (x := x) (dx := dx) V B28 (mI 4 rfl) (mI 5 rfl) hself (by kernel_rfl) (by kernel_rfl) ?_
            intro s29 B29
            refine ml_append (B29.own (ln, lstO lines epl) (mI 3 rfl)) ?_
            refine cw_builtin ?_
            refine a_cons ?_
            refine c_name ?_
            refine b_glob B29 (gv_str _) (by kernel_rfl) (by kernel_rfl) (by kernel_rfl) (by kernel_rfl) (by kernel_rfl) ?_
            refine cw_type ?_
            refine a_cons ?_
            refine e_curM (x := x) (dx := dx) V B29 (mI 4 rfl) (mI 5 rfl) hself (by kernel_rfl) (by kernel_rfl) ?_
            intro s30 B30
            refine a_nil ?_
            have a30 : AccAt c s30.heap ac ad ((items.push (.ref p)).toList.take (j + 1)).toArray ep27 t1 t0 ((ps ++ [(f, g)]).take (j + 1)) :=
              ⟨B30.own (ac, accO ad ((items.push (.ref p)).toList.take (j + 1)).toArray ep27) (mI 0 rfl), B30.own (ad, acD c.w.params t1 (.int 0 t0)) (mI 1 rfl), B30.lowM (ac, accO ad ((items.push (.ref p)).toList.take (j + 1)).toArray ep27) (mI 0 rfl), B30.lowM (ad, acD c.w.params t1 (.int 0 t0)) (mI 1 rfl),
                (((hP.mono B30.keep).snoc (p := (f, g)) (B30.own (p, tupO [.str f tf, .str g tg]) (mI 6 rfl)) (B30.lowM (p, tupO [.str f tf, .str g tg]) (mI 6 rfl))).take (j + 1))⟩
            refine str_acc B30.inv R' a30 (fun q' hq' => hz q' (List.mem_of_mem_take hq')) (by rw [List.length_take]; lia) ?_
            intro t31 s31 E31
            have B31 := B30.after E31
            refine a_nil ?_
            refine b_append (pre := [(ac, accO ad ((items.push (.ref p)).toList.take (j + 1)).toArray ep27), (ad, acD c.w.params t1 (.int 0 t0)), (pl, lstO ((items.push (.ref p)).toList.drop (j + 1)).toArray 0)]) (post := [(x, instObj 137 dx), (dx, od), (p, tupO [.str f tf, .str g tg]), (it2, rngO j j), (it1, o9)]) B31 rfl hln ?_
            intro epl' s32 B32
            clear B28 B29 B30 B31
            dsimp only [seqK]
            refine sK ?_
            refine wpAny_Expr ?_
            refine c_attr ?_
            refine e_curM (x := x) (dx := dx) V B32 (mI 4 rfl) (mI 5 rfl) hself (by kernel_rfl) (by kernel_rfl) ?_
            intro s33 B33
            refine m_curM (ad := ad) (items := ((items.push (.ref p)).toList.take (j + 1)).toArray) (epa := ep27) (t1 := t1) (t0 := t0) B33 (mI 0 rfl) (mI 1 rfl) (fa_reset _) (ft_reset _) (sh_reset _ _ _) ?_
            refine cw_def (fo_203 _) (fd_203 _) ?_
            refine a_cons ?_
            refine b_name B33 (envF_locals _ _ _) look_here (by kernel_rfl) (by kernel_rfl) (by kernel_rfl) ?_
            refine a_nil ?_
            refine ⟨B33.inv, ?_⟩
            refine reset_spec B33.inv R' (Bod.has (rest := [(ln, lstO (lines.push (.str (lineOf ((ps ++ [(f, g)]).take (j + 1))) t31)) epl'), (x, instObj 137 dx), (dx, od), (p, tupO [.str f tf, .str g tg]), (it2, rngO j j), (it1, o9)]) B33) ?_ ?_
            · have : ((items.push (.ref p)).toList.take (j + 1)).toArray.size + ((items.push (.ref p)).toList.drop (j + 1)).toArray.size = items.size + 1 := by simp; lia
              rw [this]; exact hzi
            · intro t0' ep34 s34 M34
              have B34 := B33.turned (rest := [(ln, lstO (lines.push (.str (lineOf ((ps ++ [(f, g)]).take (j + 1))) t31)) epl'), (x, instObj 137 dx), (dx, od), (p, tupO [.str f tf, .str g tg]), (it2, rngO j j), (it1, o9)]) M34
              dsimp only [seqK]
              refine wpAny_execs_nil ?_
              refine hQ0 _ _ ?_
              dsimp only [seqK]
              refine wpAny_execs_nil ?_
              refine h2 (j + 1) hcut p ep34 t0' epl' t31 s34 (Bod.mev (mu' := vfMu c.w.params x dx ac ad ln od ((items.push (.ref p)).toList.drop (j + 1)).toArray ep34 t1 t0' (lines.push (.str (lineOf ((ps ++ [(f, g)]).take (j + 1))) t31)) epl') (nw := [(p, tupO [.str f tf, .str g tg])]) (rest := [(pl, lstO ((items.push (.ref p)).toList.drop (j + 1)).toArray 0), (it2, rngO j j), (it1, o9)]) (B34.perm ?_) rfl ?_)
              · refine List.Perm.cons _ (List.Perm.cons _ ?_)
                exact (List.perm_append_comm (l₁ := [_]) (l₂ := [_, _, _, _])).append_right [_, _]
              · intro q hq
                rw [List.mem_singleton.mp hq]; exact hp0
          · have hse : endsSemi q.2 = false := by simpa using hse
            rw [hse]
            refine (if_neg Bool.false_ne_true).mpr ?_
            refine (if_neg Bool.false_ne_true).mpr ?_
            refine wpAny_execs_nil ?_
            dsimp only [seqK]
            refine wpAny_execs_nil ?_
            refine hQ2 _ _ ?_
            refine ⟨_, ⟨hlk _ _ k1 (by kernel_rfl) (by kernel_rfl), hlk _ _ k2 (by kernel_rfl) (by kernel_rfl), ?_, by lia⟩, B24⟩
            rw [k3]; exact splitFrom_no hqs hse
      · intro m s17 hK B17
        obtain ⟨k1, k2, k3, k4⟩ := hK
        refine sK ?_
        refine wpAny_Continue ?_
        refine hQ1 _ _ ?_
        dsimp only [seqK]
        refine ⟨m, B17, ?_⟩
        clear B17 B16
        intro s18 B18
        have hnone : cut W (ps ++ [(f, g)]) = none := by
          unfold cut
          rw [if_pos hgt]
          have e9 : (ps ++ [(f, g)]).length - 1 = items.size := by rw [List.length_append, hP.1]; simp
          rw [e9, k3]; rfl
        refine sK ?_
        refine Assign_Tuple ?_
        refine c_attr ?_
        refine e_curM (x := x) (dx := dx) V B18 (mI 3 rfl) (mI 4 rfl) k1 (by kernel_rfl) (by kernel_rfl) ?_
        intro s19 B19
        refine m_curM (ad := ad) (items := items.push (.ref p)) (epa := ep3) (t1 := t1) (t0 := t0) B19 (mI 0 rfl) (mI 1 rfl) (fa_pop _) (ft_pop _) (sh_pop _ _ _) ?_
        refine cw_def0 (fo_181 _) (fd_181 _) B19.inv ?_
        refine pop_spec B19.inv R' (Bod.has (rest := [(ln, lstO lines epl), (x, instObj 137 dx), (dx, od), (p, tupO [.str f tf, .str g tg])]) B19) (Nat.le_of_succ_le hzi) ?_
        intro ep20 s20 M20
        have B20 := B19.turned (rest := [(ln, lstO lines epl), (x, instObj 137 dx), (dx, od), (p, tupO [.str f tf, .str g tg])]) M20
        refine assign_Tuple_tuple R'.handled ⟨_, B20.own (p, tupO [.str f tf, .str g tg]) (mI 5 rfl), rfl, _, rfl⟩ rfl rfl ?_
        intro h21 x21
        have B21 := B20.kept (h' := h21) (t := s20.toks) (fun b o e => x21 b o (Nat.ne_of_lt (Heap.lt_size e)) e) hzL
        clear B18 B19 B20
        refine assignInOrder_cons ?_
        refine wpAny_assign_Name ?_
        refine b_store B21 (envF_locals _ _ _) (by kernel_rfl) (by kernel_rfl) ?_
        intro s22 B22
        refine assignInOrder_cons ?_
        refine wpAny_assign_Name ?_
        refine b_store B22 (envF_locals _ _ _) (by kernel_rfl) (by kernel_rfl) ?_
        intro s23 B23
        refine assignInOrder_nil ?_
        clear B21 B22
        have hself : List.lookup n_self ((n_part, Value.str g tg) :: (n_fws, Value.str f tf) :: m) = some (.ref x) := look_there (by kernel_rfl) (look_there (by kernel_rfl) k1)
        dsimp only [seqK]
        refine sK ?_
        refine wpAny_If ?_
        refine wpAny_isTrue_Compare1 ?_
        refine e_attr ?_
        refine e_curM (x := x) (dx := dx) V B23 (mI 3 rfl) (mI 4 rfl) hself (by kernel_rfl) (by kernel_rfl) ?_
        intro s24 B24
        refine b_getattrL (C := 221) (dx := ad) (od := acD c.w.params t1 (.int 0 t0)) (ox := accO ad items ep20) B24 (mI 0 rfl) (mI 1 rfl) rfl rfl rfl (fa_mro _) (fa_ga _) (fa_gk _) (fi_size _ _ _) rfl ?_
        intro s25 B25
        refine b_int B25 ?_
        intro t26 s26 B26
        refine P.gt_int ?_
        refine b_bool ?_
        rw [decide_eq_false (show ¬ ((0 : Int) > 0) by decide)]
        refine (if_neg Bool.false_ne_true).mpr ?_
        refine wpAny_execs_nil ?_
        dsimp only [seqK]
        refine sK ?_
        refine wpAny_Expr ?_
        refine c_attr ?_
        refine e_curM (x := x) (dx := dx) V B26 (mI 3 rfl) (mI 4 rfl) hself (by kernel_rfl) (by kernel_rfl) ?_
        intro s27 B27
        refine m_curM (ad := ad) (items := items) (epa := ep20) (t1 := t1) (t0 := t0) B27 (mI 0 rfl) (mI 1 rfl) (fa_push _) (ft_push _) (sh_push _ _ _) ?_
        refine cw_def (fo_165 _) (fd_165 _) ?_
        refine a_cons ?_
        refine b_name B27 (envF_locals _ _ _) (look_there (by kernel_rfl) look_here) (by kernel_rfl) (by kernel_rfl) (by kernel_rfl) ?_
        refine a_cons ?_
        refine b_name B27 (envF_locals _ _ _) look_here (by kernel_rfl) (by kernel_rfl) (by kernel_rfl) ?_
        refine a_nil ?_
        refine ⟨B27.inv, ?_⟩
        have hz27 : s.heap.objs.size ≤ s27.heap.objs.size := by have := B27.size; rwa [hideAll_size] at this
        refine push_spec' B27.inv R' (Bod.has (rest := [(ln, lstO lines epl), (x, instObj 137 dx), (dx, od), (p, tupO [.str f tf, .str g tg])]) B27) (sh_append _ _ _) hzi ?_
        intro p2 ep28 s28 M28
        have B28 := B27.turned (rest := [(ln, lstO lines epl), (x, instObj 137 dx), (dx, od), (p, tupO [.str f tf, .str g tg])]) M28
        clear B23 B24 B25 B26 B27
        dsimp only [seqK]
        refine sK ?_
        refine wpAny_Return_none ?_
        refine hQ0 _ _ ?_
        dsimp only [seqK]
        refine h1 hnone p2 ep28 s28 (Bod.mev (mu' := vfMu c.w.params x dx ac ad ln od (items.push (.ref p2)) ep28 t1 t0 lines epl) (nw := [(p2, tupO [.str f tf, .str g tg])]) (rest := [(p, tupO [.str f tf, .str g tg])]) (B28.perm ?_) rfl ?_)
        · refine List.Perm.cons _ (List.Perm.cons _ ?_)
          exact (List.perm_append_comm (l₁ := [_]) (l₂ := [_, _, _])).append_right [_]
        · intro q hq
          rw [List.mem_singleton.mp hq]
          exact Nat.le_trans hz27 (M28.new _ (List.mem_singleton.mpr rfl)).2
    · rw [eN]
      exact Or.inl (PyProof.noPylong_small (by lia))
  · rw [decide_eq_false hgt]
    refine (if_neg Bool.false_ne_true).mpr ?_
    refine wpAny_execs_nil ?_
    dsimp only [seqK]
    refine wpAny_execs_nil ?_
    refine h1 (by unfold cut; rw [if_neg hgt]) p ep3 s6 (Bod.mev (mu' := vfMu c.w.params x dx ac ad ln od (items.push (.ref p)) ep3 t1 t0 lines epl) (nw := [(p, tupO [.str f tf, .str g tg])]) (rest := []) B6 rfl ?_)
    intro q hq
    rw [List.mem_singleton.mp hq]; exact hp0
end Mine
end
section
namespace Mine
open PySem PySem.Sre

noncomputable def rc : Array Nat := #[14, 4, 0, 1, 4294967295, 17, 0, 24, 11, 1, 4294967295, 13, 6, 16, 32, 16, 9, 0, 1, 17, 1, 1]

/-- the machine at a new start -/
noncomputable def stA (text : Array Nat) (lim p : Nat) (first : Bool) (seen : Seen) (marks : Array (Option Nat)) : M :=
  { code := rc, text, lim, start := p, lastStart := lim, pc := 5, pos := p, handed := p, outermost := first, marks, lastmark := -1, lastindex := -1,
    frames := [{ wait := .nextStart, pc := 5, pos := p, outermost := first }], weight := 1, seen }

/-- behind the first mark -/
noncomputable def stB (text : Array Nat) (lim p : Nat) (first : Bool) (seen : Seen) (marks : Array (Option Nat)) : M :=
  { stA text lim p first seen marks with pc := 7, lastmark := 0 }

theorem step_A {text : Array Nat} {lim p : Nat} {first : Bool} {seen : Seen} {marks : Array (Option Nat)} :
    (stA text lim p first seen marks).step = stB text lim p first (seen.add 17) (marks.setIfInBounds 0 (some p)) := by
  rfl

theorem inSet_sp {c : Nat} (h : c = 32 ∨ c = 9) (seen : Seen) : ∃ s', accepts rc 11 c seen = .ok (true, s') := by
  rcases h with rfl | rfl
  · exact ⟨_, rfl⟩
  · exact ⟨_, rfl⟩
theorem inSet_no {c : Nat} (h1 : c ≠ 32) (h2 : c ≠ 9) (seen : Seen) : ∃ s', accepts rc 11 c seen = .ok (false, s') := by
  have e1 : (c == 32) = false := by simpa using h1
  have e2 : (c == 9) = false := by simpa using h2
  refine ⟨((seen.add 16).add 16).add 0, ?_⟩
  show (if (c == 32) = true then Except.ok (true, seen.add 16) else if (c == 9) = true then Except.ok (true, (seen.add 16).add 16) else Except.ok (!true, ((seen.add 16).add 16).add 0)) = _
  rw [e1, e2]; rfl

theorem run_zero {text : Array Nat} {p n : Nat} (hn : 1 ≤ n) (h1 : text.getD p 0 ≠ 32) (h2 : text.getD p 0 ≠ 9) (seen : Seen) : ∃ s', run rc text 11 n p 0 seen = .ok (0, s') := by
  obtain ⟨k, rfl⟩ : ∃ k, n = k + 1 := ⟨n - 1, by lia⟩
  obtain ⟨s', e⟩ := inSet_no h1 h2 seen
  refine ⟨s', ?_⟩
  show (do let (yes, seen) ← accepts rc 11 (text.getD p 0) seen; if yes then run rc text 11 k (p + 1) (0 + 1) seen else pure (0, seen)) = _
  rw [e]; rfl
theorem run_one {text : Array Nat} {p n : Nat} (hn : 1 ≤ n) (h0 : text.getD p 0 = 32) (h : n = 1 ∨ (text.getD (p + 1) 0 ≠ 32 ∧ text.getD (p + 1) 0 ≠ 9)) (seen : Seen) : ∃ s', run rc text 11 n p 0 seen = .ok (1, s') := by
  obtain ⟨k, rfl⟩ : ∃ k, n = k + 1 := ⟨n - 1, by lia⟩
  obtain ⟨s1, e⟩ := inSet_sp (c := text.getD p 0) (.inl h0) seen
  have go : run rc text 11 (k + 1) p 0 seen = run rc text 11 k (p + 1) 1 s1 := by
    show (do let (yes, seen) ← accepts rc 11 (text.getD p 0) seen; if yes then run rc text 11 k (p + 1) (0 + 1) seen else pure (0, seen)) = _
    rw [e]; rfl
  rw [go]
  cases k with
  | zero => exact ⟨s1, rfl⟩
  | succ j =>
    rcases h with h | ⟨h1, h2⟩
    · lia
    · obtain ⟨s2, e2⟩ := inSet_no h1 h2 s1
      refine ⟨s2, ?_⟩
      show (do let (yes, seen) ← accepts rc 11 (text.getD (p + 1) 0) s1; if yes then run rc text 11 j (p + 1 + 1) (1 + 1) seen else pure (1, seen)) = _
      rw [e2]; rfl

/-- behind a failed start -/
noncomputable def stF (text : Array Nat) (lim p : Nat) (first : Bool) (seen : Seen) (marks : Array (Option Nat)) : M := { stB text lim p first seen marks with answer := some false }

theorem step_B_no {text : Array Nat} {lim p : Nat} {first : Bool} {seen : Seen} {marks : Array (Option Nat)} (h : p ≤ lim) (hc : p < lim → text.getD p 0 ≠ 32 ∧ text.getD p 0 ≠ 9) :
    ∃ s', (stB text lim p first seen marks).step = stF text lim p first s' marks := by
  by_cases hp : p < lim
  · obtain ⟨h1, h2⟩ := hc hp
    have hr : ¬ ((1 : Int) > (lim : Int) - p) := by lia
    obtain ⟨s', e⟩ := run_zero (text := text) (p := p) (n := min 4294967295 ((lim : Int) - p).toNat) (by lia) h1 h2 ((seen.add 24).add 13)
    refine ⟨s', ?_⟩
    show (if (1 : Int) > (lim : Int) - p then _ else _) = _
    rw [if_neg hr]
    show (match run rc text 11 (min 4294967295 ((lim : Int) - p).toNat) p 0 ((seen.add 24).add 13) with | .error why => _ | .ok (n, seen) => _) = _
    rw [e]
    rfl
  · have : p = lim := by lia
    subst this
    have hr : ((1 : Int) > (p : Int) - p) := by lia
    refine ⟨seen.add 24, ?_⟩
    show (if (1 : Int) > (p : Int) - p then _ else _) = _
    rw [if_pos hr]
    rfl

theorem step_F_next {text : Array Nat} {lim p : Nat} {first : Bool} {seen : Seen} {marks : Array (Option Nat)} (h : p < lim) : (stF text lim p first seen marks).step = stA text lim (p + 1) false seen marks := by
  show (if p < lim then _ else _) = _
  rw [if_pos h]
  rfl
/-- the search's end without a find -/
noncomputable def stZ (text : Array Nat) (lim p : Nat) (first : Bool) (seen : Seen) (marks : Array (Option Nat)) : M := { stF text lim p first seen marks with frames := [], weight := 0, pc := 5 }
theorem step_F_end {text : Array Nat} {lim : Nat} {first : Bool} {seen : Seen} {marks : Array (Option Nat)} : (stF text lim lim first seen marks).step = stZ text lim lim first seen marks := by
  show (if lim < lim then _ else _) = _
  rw [if_neg (Nat.lt_irrefl _)]
  rfl
theorem step_Z {text : Array Nat} {lim p : Nat} {first : Bool} {seen : Seen} {marks : Array (Option Nat)} : (stZ text lim p first seen marks).step = { stZ text lim p first seen marks with outcome := some .failed } := rfl

/-- behind the blank -/
noncomputable def stC (text : Array Nat) (lim p : Nat) (first : Bool) (seen : Seen) (marks : Array (Option Nat)) : M :=
  { code := rc, text := text, lim := lim, start := p, lastStart := lim, pc := 19, pos := p + 1, handed := p + 1, outermost := first, marks := marks, lastmark := 0, lastindex := -1,
    frames := [Sre.Frame.mk .giveBack 7 (p + 1) first 1 (Kept.mk 0 (-1) false #[]) 0 none, Sre.Frame.mk .nextStart 5 p first 0 {} 0 none], weight := 2, seen := seen }
theorem step_B_yes {text : Array Nat} {lim p : Nat} {first : Bool} {seen : Seen} {marks : Array (Option Nat)} (hp : p < lim) (h0 : text.getD p 0 = 32) (h : p + 1 = lim ∨ (text.getD (p + 1) 0 ≠ 32 ∧ text.getD (p + 1) 0 ≠ 9)) :
    ∃ s', (stB text lim p first seen marks).step = stC text lim p first s' marks := by
  have hr : ¬ ((1 : Int) > (lim : Int) - p) := by lia
  obtain ⟨s', e⟩ := run_one (text := text) (p := p) (n := min 4294967295 ((lim : Int) - p).toNat) (by lia) h0 (h.elim (fun h => .inl (by lia)) .inr) ((seen.add 24).add 13)
  refine ⟨s', ?_⟩
  show (if (1 : Int) > (lim : Int) - p then _ else _) = _
  rw [if_neg hr]
  show (match run rc text 11 (min 4294967295 ((lim : Int) - p).toNat) p 0 ((seen.add 24).add 13) with | .error why => _ | .ok (n, seen) => _) = _
  rw [e]
  rfl
/-- found -/
structure Found (m : M) (p : Nat) : Prop where
  out : m.outcome = some .matched
  start : m.start = p
  handed : m.handed = p + 1
  m0 : m.marks.getD 0 none = some p
  m1 : m.marks.getD 1 none = some (p + 1)
  last : m.lastmark = 1
noncomputable def stD (text : Array Nat) (lim p : Nat) (first : Bool) (seen : Seen) (marks : Array (Option Nat)) (pc : Nat) (pos : Nat) (frames : List Sre.Frame) (weight : Nat) (answer : Option Bool) : M :=
  { code := rc, text := text, lim := lim, start := p, lastStart := lim, pc := pc, pos := pos, handed := p + 1, outermost := first, marks := marks, lastmark := 1, lastindex := 1,
    frames := frames, weight := weight, seen := seen, answer := answer }
section
variable {text : Array Nat} {lim p : Nat} {first : Bool} {seen : Seen} {marks : Array (Option Nat)}
noncomputable abbrev frG (p : Nat) (first : Bool) : Sre.Frame := Sre.Frame.mk .giveBack 7 (p + 1) first 1 (Kept.mk 0 (-1) false #[]) 0 none
noncomputable abbrev frN (p : Nat) (first : Bool) : Sre.Frame := Sre.Frame.mk .nextStart 5 p first 0 {} 0 none
theorem step_C : (stC text lim p first seen marks).step = stD text lim p first (seen.add 17) (marks.setIfInBounds 1 (some (p + 1))) 21 (p + 1) [frG p first, frN p first] 2 none := by kernel_rfl
theorem step_D1 : (stD text lim p first seen marks 21 (p + 1) [frG p first, frN p first] 2 none).step = stD text lim p first (seen.add 1) marks 21 (p + 1) [frG p first, frN p first] 2 (some true) := by
  cases first <;> rfl
theorem step_D2 : (stD text lim p first seen marks 21 (p + 1) [frG p first, frN p first] 2 (some true)).step = stD text lim p first seen marks 7 (p + 1) [frN p first] 1 (some true) := by rfl
theorem step_D3 : (stD text lim p first seen marks 7 (p + 1) [frN p first] 1 (some true)).step = stD text lim p first seen marks 5 p [] 0 (some true) := by rfl
theorem step_D4 : (stD text lim p first seen marks 5 p [] 0 (some true)).step = { stD text lim p first seen marks 5 p [] 0 (some true) with outcome := some .matched } := by rfl
theorem steps_C (hm : marks.size = 2) (h0 : marks.getD 0 none = some p) : Found ((((((stC text lim p first seen marks).step).step).step).step).step) p := by
  rw [step_C, step_D1, step_D2, step_D3, step_D4]
  refine ⟨rfl, rfl, rfl, ?_, ?_, rfl⟩
  · show (marks.setIfInBounds 1 (some (p + 1))).getD 0 none = _
    rw [← h0]
    simp [Array.getD_eq_getD_getElem?]
  · show (marks.setIfInBounds 1 (some (p + 1))).getD 1 none = _
    simp [Array.getD_eq_getD_getElem?, hm]
end
end Mine
end
section
namespace Mine
open PySem PySem.Sre

theorem runFor_done {m : M} (h : m.outcome.isSome = true) : ∀ n, M.runFor n m = m
  | 0 => rfl
  | n + 1 => by show (if m.outcome.isSome then m else M.runFor n m.step) = m; rw [if_pos h]
theorem runFor_step {m : M} (h : m.outcome = none) (n : Nat) : M.runFor (n + 1) m = M.runFor n m.step := by
  show (if m.outcome.isSome then m else M.runFor n m.step) = _; rw [if_neg (by rw [h]; decide)]
theorem runFor_add (b : Nat) : ∀ (a : Nat) (m : M), M.runFor (a + b) m = M.runFor b (M.runFor a m)
  | 0, m => by rw [Nat.zero_add]; rfl
  | a + 1, m => by
    by_cases h : m.outcome.isSome = true
    · rw [runFor_done h, runFor_done h, runFor_done h]
    · have h' : m.outcome = none := by simpa using h
      rw [Nat.add_right_comm, runFor_step h', runFor_step h', runFor_add b a]

/-- ends within b steps in m' -/
def Ends (b : Nat) (m m' : M) : Prop := ∃ n, n ≤ b ∧ M.runFor n m = m' ∧ m'.outcome.isSome = true
theorem Ends.step {b : Nat} {m m' : M} (h : m.outcome = none) (e : Ends b m.step m') : Ends (b + 1) m m' := by
  obtain ⟨n, hb, e1, e2⟩ := e
  exact ⟨n + 1, by lia, by rw [runFor_step h]; exact e1, e2⟩
theorem Ends.here {m : M} (h : m.outcome.isSome = true) : Ends 0 m m := ⟨0, Nat.le_refl _, rfl, h⟩
theorem Ends.le {b b' : Nat} {m m' : M} (e : Ends b m m') (h : b ≤ b') : Ends b' m m' := let ⟨n, hb, r⟩ := e; ⟨n, Nat.le_trans hb h, r⟩

def Calm (c : Nat) : Prop := c ≠ 32 ∧ c ≠ 9

theorem from_found {text : Array Nat} {lim e : Nat} (he : e < lim) (h0 : text.getD e 0 = 32) (h : e + 1 = lim ∨ Calm (text.getD (e + 1) 0)) :
    ∀ (k p : Nat) (first : Bool) (seen : Seen) (marks : Array (Option Nat)), p + k = e → marks.size = 2 → (∀ j, p ≤ j → j < e → Calm (text.getD j 0)) → ∃ m', Ends (3 * k + 7) (stA text lim p first seen marks) m' ∧ Found m' e
  | 0, p, first, seen, marks, hp, hm, hc => by
    have : p = e := by lia
    subst this
    obtain ⟨s', e2⟩ := step_B_yes (text := text) (lim := lim) (p := p) (first := first) (seen := seen.add 17) (marks := marks.setIfInBounds 0 (some p)) he h0 h
    have F := steps_C (text := text) (lim := lim) (p := p) (first := first) (seen := s') (marks := marks.setIfInBounds 0 (some p)) (by simp [hm]) (by simp [Array.getD_eq_getD_getElem?, hm])
    refine ⟨_, Ends.step (b := 6) rfl ?_, F⟩
    rw [step_A]
    refine Ends.step rfl ?_
    rw [e2]
    refine Ends.step rfl ?_
    rw [step_C]
    refine Ends.step rfl ?_
    rw [step_D1]
    refine Ends.step rfl ?_
    rw [step_D2]
    refine Ends.step rfl ?_
    rw [step_D3]
    refine Ends.step rfl ?_
    rw [step_D4]
    exact Ends.here rfl
  | k + 1, p, first, seen, marks, hp, hm, hc => by
    obtain ⟨s', e2⟩ := step_B_no (text := text) (lim := lim) (p := p) (first := first) (seen := seen.add 17) (marks := marks.setIfInBounds 0 (some p)) (by lia) (fun _ => hc p (Nat.le_refl _) (by lia))
    obtain ⟨m', E, F⟩ := from_found he h0 h k (p + 1) false s' (marks.setIfInBounds 0 (some p)) (by lia) (by simp [hm]) (fun j h1 h2 => hc j (by lia) h2)
    refine ⟨m', Ends.le (b := 3 * k + 7 + 1 + 1 + 1) (Ends.step rfl ?_) (by lia), F⟩
    rw [step_A]
    refine Ends.step rfl ?_
    rw [e2]
    refine Ends.step rfl ?_
    rw [step_F_next (by lia)]
    exact E

theorem from_none {text : Array Nat} {lim : Nat} :
    ∀ (k p : Nat) (first : Bool) (seen : Seen) (marks : Array (Option Nat)), p + k = lim → (∀ j, p ≤ j → j < lim → Calm (text.getD j 0)) → ∃ m', Ends (3 * k + 4) (stA text lim p first seen marks) m' ∧ m'.outcome = some .failed
  | 0, p, first, seen, marks, hp, hc => by
    have : p = lim := by lia
    subst this
    obtain ⟨s', e2⟩ := step_B_no (text := text) (lim := p) (p := p) (first := first) (seen := seen.add 17) (marks := marks.setIfInBounds 0 (some p)) (Nat.le_refl _) (fun h => absurd h (Nat.lt_irrefl _))
    refine ⟨{ stZ text p p first s' (marks.setIfInBounds 0 (some p)) with outcome := some .failed }, Ends.step (b := 3) rfl ?_, rfl⟩
    rw [step_A]
    refine Ends.step rfl ?_
    rw [e2]
    refine Ends.step rfl ?_
    rw [step_F_end]
    refine Ends.step rfl ?_
    rw [step_Z]
    exact Ends.here rfl
  | k + 1, p, first, seen, marks, hp, hc => by
    obtain ⟨s', e2⟩ := step_B_no (text := text) (lim := lim) (p := p) (first := first) (seen := seen.add 17) (marks := marks.setIfInBounds 0 (some p)) (by lia) (fun _ => hc p (Nat.le_refl _) (by lia))
    obtain ⟨m', E, F⟩ := from_none k (p + 1) false s' (marks.setIfInBounds 0 (some p)) (by lia) (fun j h1 h2 => hc j (by lia) h2)
    refine ⟨m', Ends.le (b := 3 * k + 4 + 1 + 1 + 1) (Ends.step rfl ?_) (by lia), F⟩
    rw [step_A]
    refine Ends.step rfl ?_
    rw [e2]
    refine Ends.step rfl ?_
    rw [step_F_next (by lia)]
    exact E

open PySem.Builtin.Re in
theorem drive {Mo : Model} {A : Around} {E : Value → Shared → Prop} {s : Shared} {Q : M → Shared → Prop} {m' : M} (hq : Q m' s) (ho : m'.outcome.isSome = true) : ∀ (turns : Nat) (m : M) (n : Nat), M.runFor n m = m' → n ≤ 4 * turns → 0 < turns → wpAny Mo A (reDrive turns m) Q E s
  | 0, m, n, e, hn, h0 => absurd h0 (Nat.lt_irrefl _)
  | t + 1, m, n, e, hn, h0 => by
    show wpAny Mo A (if (M.runFor 4 m).outcome.isSome then pure (M.runFor 4 m) else do rule "sre.turn"; reDrive t (M.runFor 4 m)) Q E s
    by_cases h4 : (M.runFor 4 m).outcome.isSome = true
    · rw [if_pos h4]
      have : M.runFor 4 m = m' := by
        by_cases hle : n ≤ 4
        · have := runFor_add (4 - n) n m
          rw [Nat.add_sub_cancel' hle, e, runFor_done ho] at this
          exact this
        · have := runFor_add (n - 4) 4 m
          rw [Nat.add_sub_cancel' (by lia), e, runFor_done h4] at this
          exact this.symm
      rw [this]; exact wpAny_pure hq
    · rw [if_neg h4]
      refine wpAny_bind (wpAny_rule ?_)
      have hgt : 4 < n := by
        refine Nat.lt_of_not_le fun hle => h4 ?_
        have := runFor_add (4 - n) n m
        rw [Nat.add_sub_cancel' hle, e, runFor_done ho] at this
        rw [this]; exact ho
      have e2 : M.runFor (n - 4) (M.runFor 4 m) = m' := by rw [← runFor_add, Nat.add_sub_cancel' (by lia)]; exact e
      exact drive hq ho t _ (n - 4) e2 (by lia) (by lia)
end Mine
end
section
namespace Mine
open PySem PySem.Sre PySem.Builtin.Re

theorem rules_for {Mo : Model} {A : Around} {E : Value → Shared → Prop} {s : Shared} {f : Nat → Bool} {g : Nat → String} {Q : PUnit → Shared → Prop} (h : Q ⟨⟩ s) :
    ∀ l : List Nat, wpAny Mo A (forIn l PUnit.unit fun i (_ : PUnit) => (if f i then (rule (g i) >>= fun _ => pure (ForInStep.yield PUnit.unit)) else pure (ForInStep.yield PUnit.unit) : Sem (ForInStep PUnit))) Q E s
  | [] => wpAny_pure h
  | i :: l => by
    rw [List.forIn_cons]
    refine wpAny_bind ?_
    by_cases hf : f i = true
    · rw [if_pos hf]
      exact wpAny_bind (wpAny_rule (wpAny_pure (rules_for h l)))
    · rw [if_neg hf]
      exact wpAny_pure (rules_for h l)

theorem to_end {Mo : Model} {A : Around} {E : Value → Shared → Prop} {s : Shared} {Q : Option M → Shared → Prop} {m m' : M} {b : Nat} (e : Ends b m m') (hb : b ≤ 4000000000)
    (h : (m'.outcome = some .matched ∧ Q (some m') s) ∨ (m'.outcome = some .failed ∧ Q none s)) : wpAny Mo A (reRunToEnd m) Q E s := by
  obtain ⟨n, hn, e1, e2⟩ := e
  unfold reRunToEnd
  refine wpAny_bind (drive ?_ e2 _ m n e1 ?_ (by decide))
  · refine wpAny_bind ?_
    refine rules_for ?_ _
    rcases h with ⟨h1, h2⟩ | ⟨h1, h2⟩
    · rw [h1]; exact wpAny_pure h2
    · rw [h1]; exact wpAny_pure h2
  · have : (2 : Nat) ^ 64 = 18446744073709551616 := by decide
    lia

theorem forSearch_eq {text : Array Nat} {p lim : Nat} (h : p < lim) : forSearch rc text 1 p lim false = stA text lim p true (({} : Seen).add 14) #[none, none] := by
  show (if p > lim || lim - p < 1 then _ else _) = _
  rw [if_neg (by simp; lia)]
  rfl
end Mine
end
section
namespace Mine
open PySem PySem.Builtin.Re

noncomputable abbrev tgR (x : Str) (t : Tok) : ReTarget := ⟨.ref 64, .str x t, rc, x.cps, 0, 1, 0, x.cps.size⟩
section
variable {Mo : Model} {A : Around} {E : Value → Shared → Prop} {s : Shared} {x : Str} {t : Tok}
theorem next_some {p e : Nat} {Q : Option Sre.M → Shared → Prop} (hp : p ≤ e) (he : e < x.cps.size) (hz : x.cps.size ≤ 1000000) (h0 : x.cps.getD e 0 = 32) (h1 : e + 1 = x.cps.size ∨ Calm (x.cps.getD (e + 1) 0))
    (hc : ∀ j, p ≤ j → j < e → Calm (x.cps.getD j 0)) (h : ∀ m, Found m e → Q (some m) s) : wpAny Mo A (reNextFound (tgR x t) p false) Q E s := by
  unfold reNextFound
  show wpAny Mo A (reRunToEnd (Sre.forSearch rc x.cps 1 p x.cps.size false)) Q E s
  rw [forSearch_eq (by lia)]
  obtain ⟨m', E1, F⟩ := from_found he h0 h1 (e - p) p true ((({} : Sre.Seen)).add 14) #[none, none] (by lia) rfl hc
  exact to_end E1 (by lia) (.inl ⟨F.out, h m' F⟩)
theorem next_none {p : Nat} {Q : Option Sre.M → Shared → Prop} (hp : p < x.cps.size) (hz : x.cps.size ≤ 1000000)
    (hc : ∀ j, p ≤ j → j < x.cps.size → Calm (x.cps.getD j 0)) (h : Q none s) : wpAny Mo A (reNextFound (tgR x t) p false) Q E s := by
  unfold reNextFound
  show wpAny Mo A (reRunToEnd (Sre.forSearch rc x.cps 1 p x.cps.size false)) Q E s
  rw [forSearch_eq hp]
  obtain ⟨m', E1, F⟩ := from_none (text := x.cps) (x.cps.size - p) p true ((({} : Sre.Seen)).add 14) #[none, none] (by lia) hc
  exact to_end E1 (by lia) (.inr ⟨F, h⟩)
theorem slice_str {b e : Nat} {Q : Value → Shared → Prop} (hz : x.cps.size ≤ 1000000) (h : ∀ u k, Q (.str ⟨x.cps.extract b e⟩ u) { s with toks := k }) : wpAny Mo A (reSlice x.cps 0 b e) Q E s := by
  show wpAny Mo A (mkStr ⟨x.cps.extract b e⟩) Q E s
  refine wpAny_mkStr (h _ _) ?_
  show (x.cps.extract b e).size ≤ _
  rw [sizeLine_val, Array.size_extract]; lia
theorem group1 {m : Sre.M} {e : Nat} {Q : Value → Shared → Prop} (F : Found m e) (hz : x.cps.size ≤ 1000000) (h : ∀ u k, Q (.str ⟨x.cps.extract e (e + 1)⟩ u) { s with toks := k }) : wpAny Mo A (reMachineGroup (tgR x t) m (0 + 1) (pure .none)) Q E s := by
  unfold reMachineGroup
  rw [F.last]
  rw [if_neg (by decide)]
  show wpAny Mo A (match m.marks.getD 0 none, m.marks.getD 1 none with | some b, some e => if e < b then reWrongSpan else reSlice x.cps 0 b e | _, _ => pure .none) Q E s
  rw [F.m0, F.m1]
  dsimp only
  rw [if_neg (by lia)]
  exact slice_str hz h
end
end Mine
end
section
namespace Mine
open PySem PySem.Builtin.Re

noncomputable def spaced : List (List Nat) → List Nat
  | [] => []
  | [w] => w
  | w :: r => w ++ 32 :: spaced r
noncomputable def Words (ws : List (List Nat)) : Prop := ∀ w ∈ ws, w ≠ [] ∧ ∀ c ∈ w, Calm c
noncomputable def pieces : List (List Nat) → List Str
  | [] => []
  | [w] => [⟨⟨w⟩⟩]
  | w :: r => ⟨⟨w⟩⟩ :: ⟨⟨[32]⟩⟩ :: pieces r

theorem spaced_cons {w : List Nat} {r : List (List Nat)} (h : r ≠ []) : spaced (w :: r) = w ++ 32 :: spaced r := by
  cases r with
  | nil => exact absurd rfl h
  | cons a b => rfl
theorem pieces_cons {w : List Nat} {r : List (List Nat)} (h : r ≠ []) : pieces (w :: r) = ⟨⟨w⟩⟩ :: ⟨⟨[32]⟩⟩ :: pieces r := by
  cases r with
  | nil => exact absurd rfl h
  | cons a b => rfl
theorem spaced_head {ws : List (List Nat)} (h : ws ≠ []) (hw : Words ws) : ∃ c r, spaced ws = c :: r ∧ Calm c := by
  cases ws with
  | nil => exact absurd rfl h
  | cons w r =>
    obtain ⟨h1, h2⟩ := hw w (List.mem_cons_self ..)
    cases w with
    | nil => exact absurd rfl h1
    | cons c w' =>
      refine ⟨c, (spaced ((c :: w') :: r)).tail, ?_, h2 c (List.mem_cons_self ..)⟩
      cases r with
      | nil => rfl
      | cons a b => rfl
theorem getD_of {x : Str} {l : List Nat} (h : x.cps.toList = l) (j : Nat) : x.cps.getD j 0 = l.getD j 0 := by
  subst h
  rw [Array.getD_eq_getD_getElem?, List.getD_eq_getElem?_getD, Array.getElem?_toList]
theorem size_of {x : Str} {l : List Nat} (h : x.cps.toList = l) : x.cps.size = l.length := by subst h; simp
theorem extract_of {x : Str} {a b c : List Nat} (h : x.cps.toList = a ++ b ++ c) : x.cps.extract a.length (a.length + b.length) = ⟨b⟩ := by
  refine Array.ext' ?_
  rw [Array.toList_extract, h]
  simp [List.extract_eq_take_drop]
end Mine
end
section
namespace Mine
open PySem PySem.Builtin.Re

open PyProof.Rows in
noncomputable abbrev SSt := Array Value × Nat × Nat × Bool × Int × Bool
noncomputable def splTurn (x : Str) (t : Tok) (z : SSt) : Sem (ForInStep SSt) :=
  if (!z.snd.snd.snd.snd.snd) = true then do
    let r ← (if ((0 : Int) != 0 && decide (z.snd.snd.snd.snd.fst ≥ 0)) = true then pure none else reNextFound (tgR x t) z.snd.fst z.snd.snd.snd.fst)
    match r with
    | none => pure (ForInStep.yield (z.fst, z.snd.fst, z.snd.snd.fst, z.snd.snd.snd.fst, z.snd.snd.snd.snd.fst, true))
    | some m => do
      let v ← reSlice x.cps 0 z.snd.snd.fst m.start
      let o ← forIn (List.range 1) (z.fst.push v) fun g o => do
        let u ← reMachineGroup (tgR x t) m (g + 1) (pure .none)
        pure (ForInStep.yield (o.push u))
      pure (ForInStep.yield (o, m.handed, m.handed, m.handed == m.start, z.snd.snd.snd.snd.fst + 1, z.snd.snd.snd.snd.snd))
  else pure (ForInStep.yield (z.fst, z.snd.fst, z.snd.snd.fst, z.snd.snd.snd.fst, z.snd.snd.snd.snd.fst, z.snd.snd.snd.snd.snd))

section
variable {Mo : Model} {A : Around} {E : Value → Shared → Prop} {x : Str} {t : Tok} {Q : SSt → Shared → Prop}
theorem spl_over : ∀ (l : List Nat) (z : SSt) (s : Shared), z.snd.snd.snd.snd.snd = true → Q z s → wpAny Mo A (forIn l z fun _ z => splTurn x t z) Q E s
  | [], z, s, _, h => wpAny_pure h
  | i :: l, (a, b, c, d, e, f), s, hz, h => by
    dsimp only at hz
    subst hz
    rw [List.forIn_cons]
    refine wpAny_bind ?_
    unfold splTurn
    dsimp only
    rw [if_neg (by simp)]
    exact wpAny_pure (spl_over l _ s rfl h)

theorem spl_found {w pre : List Nat} {r : List (List Nat)} {out : Array Value} {n : Int} {s : Shared} {Q : ForInStep SSt → Shared → Prop} (hx : x.cps.toList = pre ++ (w ++ 32 :: spaced r)) (hr : r ≠ []) (hw : Words (w :: r)) (hz : x.cps.size ≤ 1000000)
    (h : ∀ u u' k, Q (.yield ((out.push (.str ⟨⟨w⟩⟩ u)).push (.str ⟨⟨[32]⟩⟩ u'), pre.length + w.length + 1, pre.length + w.length + 1, false, n + 1, false)) { s with toks := k }) :
    wpAny Mo A (splTurn x t (out, pre.length, pre.length, false, n, false)) Q E s := by
  have hsz := size_of hx
  simp only [List.length_append, List.length_cons] at hsz
  obtain ⟨c, r', hr1, hr2⟩ := spaced_head hr (fun w' h' => hw w' (List.mem_cons_of_mem _ h'))
  unfold splTurn
  dsimp only
  rw [if_pos (by decide)]
  refine wpAny_bind ?_
  rw [if_neg (by simp)]
  refine next_some (e := pre.length + w.length) (by lia) (by lia) hz ?_ ?_ ?_ ?_
  · rw [getD_of hx]; simp [List.getD_eq_getElem?_getD]
  · right
    rw [getD_of hx, hr1]
    have : pre ++ (w ++ 32 :: c :: r') = (pre ++ w ++ [32]) ++ c :: r' := by simp
    rw [this, List.getD_eq_getElem?_getD, List.getElem?_append_right (by simp; lia)]
    have e0 : pre.length + w.length + 1 - (pre ++ w ++ [32]).length = 0 := by simp; lia
    rw [e0]
    simpa using hr2
  · intro j h1 h2
    rw [getD_of hx, List.getD_eq_getElem?_getD, List.getElem?_append_right h1, List.getElem?_append_left (by lia)]
    have hlt : j - pre.length < w.length := by lia
    rw [List.getElem?_eq_getElem hlt]
    exact (hw w (List.mem_cons_self ..)).2 _ (List.getElem_mem hlt)
  · intro m F
    dsimp only
    refine wpAny_bind (slice_str hz ?_)
    intro u k
    rw [F.start]
    have e1 : x.cps.extract pre.length (pre.length + w.length) = ⟨w⟩ := extract_of (c := 32 :: spaced r) (by rw [hx]; simp)
    have e2 : x.cps.extract (pre.length + w.length) (pre.length + w.length + 1) = ⟨[32]⟩ := by
      have := extract_of (x := x) (a := pre ++ w) (b := [32]) (c := spaced r) (by rw [hx]; simp)
      simpa using this
    rw [e1]
    refine wpAny_bind ?_
    show wpAny Mo A (forIn [0] _ _) _ _ _
    rw [List.forIn_cons]
    refine wpAny_bind (wpAny_bind (group1 F hz ?_))
    intro u' k'
    rw [e2]
    refine wpAny_pure ?_
    dsimp only
    rw [List.forIn_nil]
    refine wpAny_pure ?_
    refine wpAny_pure ?_
    have hb : (m.handed == pre.length + w.length) = false := by rw [F.handed]; simp
    rw [hb, F.handed]
    exact h u u' k'
end
end Mine
end
section
namespace Mine
open PySem PySem.Builtin.Re PyProof.Rows

theorem spl_loop {Mo : Model} {A : Around} {E : Value → Shared → Prop} {x : Str} {t : Tok} {Q : SSt → Shared → Prop} (hz : x.cps.size ≤ 1000000) :
    ∀ (ws : List (List Nat)) (pre : List Nat) (out : Array Value) (n : Int) (ys : List Str) (s : Shared) (l : List Nat), ws ≠ [] → Words ws → x.cps.toList = pre ++ spaced ws → ws.length ≤ l.length → StrsAre out.toList ys →
      (∀ out' st last must n' k zs lw, StrsAre out'.toList zs → zs ++ [⟨⟨lw⟩⟩] = ys ++ pieces ws → x.cps.extract last x.cps.size = ⟨lw⟩ → Q (out', st, last, must, n', true) { s with toks := k }) →
      wpAny Mo A (forIn l ((out, pre.length, pre.length, false, n, false) : SSt) fun _ z => splTurn x t z) Q E s
  | [], _, _, _, _, _, _, h, _, _, _, _, _ => absurd rfl h
  | [w], pre, out, n, ys, s, i :: l, _, hw, hx, _, hs, h => by
    have hsz := size_of hx
    rw [List.length_append] at hsz
    obtain ⟨hw1, hw2⟩ := hw w (List.mem_cons_self ..)
    have hx' : x.cps.toList = pre ++ w := hx
    have hpos : 0 < w.length := List.length_pos_iff.mpr hw1
    have hsz' : x.cps.size = pre.length + w.length := hsz
    rw [List.forIn_cons]
    refine wpAny_bind ?_
    unfold splTurn
    dsimp only
    rw [if_pos (by decide)]
    refine wpAny_bind ?_
    rw [if_neg (by simp)]
    refine next_none (by lia) hz ?_ ?_
    · intro j h1 h2
      rw [getD_of hx', List.getD_eq_getElem?_getD, List.getElem?_append_right h1]
      have hlt : j - pre.length < w.length := by lia
      rw [List.getElem?_eq_getElem hlt]
      exact hw2 _ (List.getElem_mem hlt)
    · dsimp only
      refine wpAny_pure ?_
      dsimp only
      refine spl_over l _ s rfl ?_
      refine h out _ _ _ _ s.toks ys w hs rfl ?_
      rw [hsz']
      exact extract_of (c := []) (by rw [hx']; simp)
  | w :: w2 :: r, pre, out, n, ys, s, i :: l, _, hw, hx, hl, hs, h => by
    rw [List.forIn_cons]
    refine wpAny_bind ?_
    refine spl_found (r := w2 :: r) hx (by simp) hw hz ?_
    intro u u' k
    dsimp only
    have e : pre.length + w.length + 1 = (pre ++ w ++ [32]).length := by simp; lia
    rw [e]
    refine spl_loop hz (w2 :: r) (pre ++ w ++ [32]) _ (n + 1) (ys ++ [⟨⟨w⟩⟩, ⟨⟨[32]⟩⟩]) _ l (by simp) (fun w' h' => hw w' (List.mem_cons_of_mem _ h')) ?_ (by simpa using hl) ?_ ?_
    · rw [hx]
      show pre ++ (w ++ 32 :: spaced (w2 :: r)) = _
      simp
    · have : ((out.push (.str ⟨⟨w⟩⟩ u)).push (.str ⟨⟨[32]⟩⟩ u')).toList = out.toList ++ [.str ⟨⟨w⟩⟩ u, .str ⟨⟨[32]⟩⟩ u'] := by simp
      rw [this]
      exact strsAre_append hs (.cons _ _ (.cons _ _ .nil))
    · intro out' st last must n' k' zs lw h1 h2 h3
      refine h out' st last must n' k' zs lw h1 ?_ h3
      rw [h2, pieces_cons (w := w) (r := w2 :: r) (by simp)]
      simp
  | [w], _, _, _, _, _, [], _, _, _, hl, _, _ => by simp at hl
  | w :: w2 :: r, _, _, _, _, _, [], _, _, _, hl, _, _ => by simp at hl
end Mine
end
section
namespace Mine
open PySem PySem.Builtin.Re PySem.W PySem.W.X PySem.Calls

theorem spaced_len : ∀ {ws : List (List Nat)}, Words ws → ws.length ≤ (spaced ws).length
  | [], _ => Nat.zero_le _
  | [w], hw => by
    have := List.length_pos_iff.mpr (hw w (List.mem_cons_self ..)).1
    show 1 ≤ w.length; lia
  | w :: w2 :: r, hw => by
    have := spaced_len (ws := w2 :: r) fun w' h' => hw w' (List.mem_cons_of_mem _ h')
    have h2 := List.length_pos_iff.mpr (hw w (List.mem_cons_self ..)).1
    rw [spaced_cons (w := w) (r := w2 :: r) (by simp)]
    simp only [List.length_append, List.length_cons] at this ⊢
    lia
theorem pieces_len : ∀ (ws : List (List Nat)), (pieces ws).length ≤ 2 * ws.length
  | [] => Nat.zero_le _
  | [w] => by show 1 ≤ 2; lia
  | w :: w2 :: r => by
    have := pieces_len (w2 :: r)
    rw [pieces_cons (w := w) (r := w2 :: r) (by simp)]
    simp only [List.length_cons] at this ⊢
    lia
theorem strsAre_length : ∀ {vs : List Value} {ys : List Str}, PyProof.Rows.StrsAre vs ys → vs.length = ys.length
  | _, _, .nil => rfl
  | _, _, .cons _ _ r => by rw [List.length_cons, List.length_cons, strsAre_length r]

theorem split_body {c : Cx} {A : Around} {E : Value → Shared → Prop} {s : Shared} {x : Str} {t : Tok} {Q : PySem.Fin → Shared → Prop} {ws : List (List Nat)} (I : SInv c s) (hz : x.cps.size ≤ 1000000) (hne : ws ≠ []) (hw : Words ws) (hx : x.cps.toList = spaced ws)
    (h : ∀ vs k, PyProof.Rows.StrsAre vs (pieces ws) → vs.length ≤ 2000002 → Q (.done (.ret (.ref s.heap.objs.size))) { s with heap := s.heap.push (lstO vs.toArray 0), toks := k }) :
    wpAny c.M A (Builtin.«re.Pattern.split» ⟨[.ref 64, .str x t], []⟩) Q E s := by
  have h64 : (KS c.w.params).lookup 64 = some (oF c.w.params 64) := by kernel_rfl
  have h63 : (KS c.w.params).lookup 63 = some (oF c.w.params 63) := by kernel_rfl
  have f64 : (match (oF c.w.params 64).data with | .fields vs => (reRawNat (vs.getD 6 .none), reRawNat (vs.getD 2 .none), vs.getD 5 .none) | _ => (9, 9, .none)) = (0, 1, .ref 63) := by kernel_rfl
  have f63 : (match (oF c.w.params 63).data with | .seq vs _ => (vs.map reRawOf).map (·.toNat) | _ => #[]) = rc := by kernel_rfl
  unfold Builtin.«re.Pattern.split»
  dsimp only
  refine wpAny_bind (wpAny_of_eq (a := [some (.str x t), none]) (by rfl) ?_)
  dsimp only
  refine wpAny_bind (wpAny_pure ?_)
  refine wpAny_bind ?_
  have tgt : wpAny c.M A (reWholeTarget (.ref 64) (.str x t)) (fun tg s' => tg = ⟨.ref 64, .str x t, rc, x.cps, 0, 1, 0, x.cps.size⟩ ∧ s' = s) E s := by
    unfold reWholeTarget
    split at f64
    · rename_i fs hfs
      split at f63
      · rename_i its ep hits
        have g6 : reRawNat (fs.getD 6 .none) = 0 := congrArg (·.1) f64
        have g2 : reRawNat (fs.getD 2 .none) = 1 := congrArg (·.2.1) f64
        have g5 : fs.getD 5 .none = .ref 63 := congrArg (·.2.2) f64
        refine wpAny_bind (wpAny_fieldsOf (inK I h64) hfs ?_)
        refine wpAny_bind (wpAny_of_eq (a := (x.cps, 0)) (by rfl) ?_)
        dsimp only
        rw [g6]
        rw [if_neg (by decide), if_neg (by decide)]
        refine wpAny_bind (wpAny_of_eq (a := ()) (by rfl) ?_)
        rw [g5, g2]
        refine wpAny_bind ?_
        unfold reRawItems
        refine wpAny_bind (wpAny_seqItems (inK I h63) hits (wpAny_pure ?_))
        refine wpAny_pure ⟨?_, rfl⟩
        rw [← f63]
        rfl
      · exact absurd f63 (by decide)
    · exact absurd f64 (by decide)
  refine wpAny_mono tgt (fun tg s' h => ?_) fun _ _ e => e
  obtain ⟨rfl, rfl⟩ := h
  dsimp only
  refine wpAny_bind ?_
  show wpAny c.M A (forIn (List.range (reMostMatches (tgR x t))) ((#[], 0, 0, false, 0, false) : SSt) fun _ z => splTurn x t z) _ _ _
  refine spl_loop hz ws [] #[] 0 [] _ _ hne hw hx ?_ .nil ?_
  · have := spaced_len hw
    rw [← hx] at this
    have e9 : x.cps.toList.length = x.cps.size := Array.length_toList
    rw [List.length_range]
    show ws.length ≤ 2 * x.cps.size + 3
    lia
  · intro out' st last must n' k zs lw h1 h2 h3
    rw [if_neg (by simp)]
    refine wpAny_bind (slice_str hz ?_)
    intro u k'
    rw [h3]
    have hS : PyProof.Rows.StrsAre (out'.push (.str ⟨⟨lw⟩⟩ u)).toList (pieces ws) := by
      have e : zs ++ [⟨⟨lw⟩⟩] = pieces ws := h2
      rw [← e, Array.toList_push]
      exact strsAre_append h1 (.cons _ _ .nil)
    have hL : (out'.push (.str ⟨⟨lw⟩⟩ u)).toList.length ≤ 2000002 := by
      rw [strsAre_length hS]
      have h1 := pieces_len ws
      have h2 := spaced_len hw
      rw [← hx] at h2
      have e9 : x.cps.toList.length = x.cps.size := Array.length_toList
      lia
    refine wpAny_bind (wpAny_newList ?_ ?_)
    · refine wpAny_pure ?_
      exact h _ k' hS hL
    · rw [sizeLine_val]; exact Nat.le_trans hL (by decide)
end Mine
end
section
namespace Mine
open PySem PySem.W PySem.W.X PyProof.Rows PySem.Calls

theorem sl_rsplit : Slot "re.Pattern" n_split "re.Pattern.split" :=
  (by kernel_rfl : Str.ofString "split" = n_split) ▸ (.of (owner := "re.Pattern") (n := "split") (by rw [typeLookup_type, builtinLookup_eq_fast]; kernel_rfl) (by decide +kernel) (by decide +kernel) (by decide +kernel)
    (by first | exact .inl (by decide +kernel) | exact .inr (by decide +kernel)) (by rw [isSubtype_type]; kernel_rfl))
theorem ty_rsplit : typeOf (.builtin "re.Pattern.split") = pure (.type "method_descriptor") := by show builtinType _ = _; rw [builtinType_eq_fast]; kernel_rfl
theorem en_rsplit : entryFor table "re.Pattern.split" = some Builtin.«re.Pattern.split» := entryFor_of_tree (by kernel_rfl)
theorem ar_rsplit (a b : Value) : argsOk "re.Pattern.split" ⟨[a, b], []⟩ := by unfold argsOk; kernel_rfl

theorem call_rsplit {c : Cx} {A : Around} {E : Value → Shared → Prop} {s : Shared} {x : Str} {t : Tok} {Q : Value → Shared → Prop} {ws : List (List Nat)} (I : SInv c s) (hz : x.cps.size ≤ 1000000) (hne : ws ≠ []) (hw : Words ws) (hx : x.cps.toList = spaced ws)
    (h : ∀ vs k, StrsAre vs (pieces ws) → vs.length ≤ 2000002 → Q (.ref s.heap.objs.size) { s with heap := s.heap.push (lstO vs.toArray 0), toks := k }) : wpAny c.M A (call (.builtin "re.Pattern.split") [.ref 64, .str x t]) Q E s := by
  have h64 : (KS c.w.params).lookup 64 = some (oF c.w.params 64) := by kernel_rfl
  have hc : (oF c.w.params 64).cls = .type "re.Pattern" := by kernel_rfl
  refine wpAny_call_entry sl_rsplit ⟨_, inK I h64, hc⟩ en_rsplit ?_ (ar_rsplit _ _)
  exact split_body I hz hne hw hx fun vs k h1 h2 => ⟨_, rfl, h vs k h1 h2⟩
theorem pa_re : PlainAttrs "re.Pattern" :=
  ⟨⟨"object.__getattribute__", by rw [typeLookup_type, builtinLookup_eq_fast]; kernel_rfl, by decide +kernel⟩, by rw [typeLookup_type, builtinLookup_eq_fast]; kernel_rfl⟩
theorem ms_rsplit {c : Cx} {A : Around} {E : Value → Shared → Prop} {s : Shared} {pl : Sem Bool} {Q : Value × List Value → Shared → Prop} (I : SInv c s) (h : Q (.builtin "re.Pattern.split", [.ref 64]) s) : wpAny c.M A (getMethod (.ref 64) n_split pl) Q E s := by
  have h64 : (KS c.w.params).lookup 64 = some (oF c.w.params 64) := by kernel_rfl
  have hc : (oF c.w.params 64).cls = .type "re.Pattern" := by kernel_rfl
  have hd : (oF c.w.params 64).dict = none := by kernel_rfl
  exact getMethod_builtin (T := "re.Pattern") ⟨_, inK I h64, hc⟩ pa_re sl_rsplit ty_rsplit (fun a e => by cases e; exact ⟨_, inK I h64, hd⟩) h
end Mine
end
section
namespace Mine
open PySem PySem.W PySem.W.X PyProof.Rows PySem.Calls

structure ZS (z TI TO it l : Addr) : Prop where
  TIz : TI ≠ z
  TOz : TO ≠ z
  itz : it ≠ z
  TITO : TI ≠ TO
  TIit : TI ≠ it
  TOit : TO ≠ it
  lz : l ≠ z
  lTO : l ≠ TO
  lit : l ≠ it

/-- zip over one iterator twice: a pair -/
theorem zipS_item {prog : Program} {w : World} {A : Around} {E : Value → Shared → Prop} {s : Shared} {z TI TO it l : Addr} {k : Nat} {xs : Array Value} {x y a b : Value} {Q : Value → Shared → Prop} (D : ZS z TI TO it l)
    (hz : IsZip s.heap z TI TO .none) (hTI : IsPair s.heap TI (.ref it) (.ref it)) (hTO : IsPair s.heap TO a b)
    (h1 : s.heap.IsListIter it l k) (hl : s.heap.IsList l xs) (hx : xs[k]? = some x) (hy : xs[k + 1]? = some y)
    (hQ : ∀ h', IsZip h' z TI TO (rawInt s.heap.objs.size) → IsPair h' TO x y → h'.IsListIter it l (k + 2) → IsPair h' s.heap.objs.size x y → h'.objs.size = s.heap.objs.size + 1 →
      (∀ c o, c ≠ z → c ≠ TO → c ≠ it → s.heap.get? c = some o → h'.get? c = some o) → Q (.ref s.heap.objs.size) { s with heap := h' }) :
    wpAny (model prog w) A (Builtin.«zip.__next__» ⟨[.ref z], []⟩) (fun fin s' => ∃ v, fin = .done (.ret v) ∧ Q v s') E s := by
  show wpAny _ _ (field (.ref z) 2 >>= _) _ _ _
  refine wpAny_bind (wpAny_field hz rfl (x := .bool false) rfl ?_)
  show wpAny _ _ (field (.ref z) 3 >>= _) _ _ _
  refine wpAny_bind (wpAny_field hz rfl (x := .ref TI) rfl ?_)
  refine wpAny_bind (wpAny_seqItems hTI rfl ?_)
  show wpAny _ _ (Builtin.SmallTypes.ownedTupleIsFree (.ref z) >>= _) _ _ _
  refine wpAny_bind ?_
  unfold Builtin.SmallTypes.ownedTupleIsFree
  refine wpAny_bind (wpAny_field hz rfl (x := .none) rfl (wpAny_pure ?_))
  simp only [if_true]
  refine wpAny_bind (wpAny_rule ?_)
  refine wpAny_bind (wpAny_field hz rfl (x := .ref TO) rfl ?_)
  refine wpAny_bind (wpAny_setField_rec hz (by simp) fun h₁ hz₁ hs₁ => ?_)
  replace hz₁ : IsZip h₁ z TI TO .ellipsis := hz₁
  refine wpAny_bind ?_
  simp only [List.zipIdx_cons, List.zipIdx_nil, List.forIn_cons, List.forIn_nil]
  refine wpAny_bind (wpAny_bind (wpAny_onRaise ?_))
  show wpAny _ _ (Builtin.SmallTypes.nextOf (.ref it) >>= _) _ _ _
  refine wpAny_bind (wpAny_nextOf_list_item (h1.extBut hs₁.extBut D.itz) (hl.extBut hs₁.extBut D.lz) hx fun h₂ h1₂ hs₂ => wpAny_pure ?_)
  have hTO₂ : IsPair h₂ TO a b := hs₂.extBut _ _ D.TOit (hs₁.extBut _ _ D.TOz hTO)
  have hl₂ : h₂.IsList l xs := (hl.extBut hs₁.extBut D.lz).extBut hs₂.extBut D.lit
  refine wpAny_bind (wpAny_seqItems hTO₂ rfl ?_)
  refine wpAny_bind (wpAny_updateSeq_pair hTO₂ fun h₃ hTO₃ hs₃ => ?_)
  replace hTO₃ : IsPair h₃ TO x b := hTO₃
  refine wpAny_bind (wpAny_letGo (wpAny_pure ?_))
  refine wpAny_bind (wpAny_bind (wpAny_onRaise ?_))
  show wpAny _ _ (Builtin.SmallTypes.nextOf (.ref it) >>= _) _ _ _
  refine wpAny_bind (wpAny_nextOf_list_item (h1₂.extBut hs₃.extBut D.TOit.symm) (hl₂.extBut hs₃.extBut D.lTO) hy fun h₄ h2₄ hs₄ => wpAny_pure ?_)
  have hTO₄ : IsPair h₄ TO x b := hs₄.extBut _ _ D.TOit hTO₃
  refine wpAny_bind (wpAny_seqItems hTO₄ rfl ?_)
  refine wpAny_bind (wpAny_updateSeq_pair hTO₄ fun h₅ hTO₅ hs₅ => ?_)
  replace hTO₅ : IsPair h₅ TO x y := hTO₅
  refine wpAny_bind (wpAny_letGo (wpAny_pure (wpAny_pure ?_)))
  refine wpAny_bind (wpAny_seqItems hTO₅ rfl ?_)
  refine wpAny_bind (wpAny_newTuple ?_)
  have hsz : h₅.objs.size = s.heap.objs.size := by rw [hs₅.1, hs₄.1, hs₃.1, hs₂.1, hs₁.1]
  have hz₅ : IsZip h₅ z TI TO .ellipsis := hs₅.extBut _ _ D.TOz.symm (hs₄.extBut _ _ D.itz.symm (hs₃.extBut _ _ D.TOz.symm (hs₂.extBut _ _ D.itz.symm hz₁)))
  have hk₅ : ∀ c o, c ≠ z → c ≠ TO → c ≠ it → s.heap.get? c = some o → h₅.get? c = some o := fun c o c1 c2 c3 e =>
    hs₅.extBut _ _ c2 (hs₄.extBut _ _ c3 (hs₃.extBut _ _ c2 (hs₂.extBut _ _ c3 (hs₁.extBut _ _ c1 e))))
  have h1₅ : h₅.IsListIter it l (k + 2) := h2₄.extBut hs₅.extBut D.TOit.symm
  have hzlt : z < h₅.objs.size := Heap.lt_size hz₅
  show wpAny _ _ (Builtin.SmallTypes.ownedTupleHandOut (.ref z) (.ref h₅.objs.size) >>= _) _ _ _
  refine wpAny_bind ?_
  unfold Builtin.SmallTypes.ownedTupleHandOut
  have hz₆ : IsZip (h₅.push { cls := .type "tuple", data := .seq #[x, y] }) z TI TO .ellipsis := Heap.get?_push_of_some _ hz₅
  refine wpAny_bind (wpAny_setField_rec hz₆ (by simp) fun h₇ hz₇ hs₇ => ?_)
  replace hz₇ : IsZip h₇ z TI TO (rawInt h₅.objs.size) := hz₇
  refine wpAny_setField_rec hz₇ (by simp) fun h₈ hz₈ hs₈ => ?_
  replace hz₈ : IsZip h₈ z TI TO (rawInt h₅.objs.size) := hz₈
  have up : ∀ c o, c ≠ z → h₅.get? c = some o → h₈.get? c = some o := fun c o c1 e => hs₈.extBut _ _ c1 (hs₇.extBut _ _ c1 (Heap.get?_push_of_some _ e))
  have hT₈ : IsPair h₈ h₅.objs.size x y := hs₈.extBut _ _ (Nat.ne_of_gt hzlt) (hs₇.extBut _ _ (Nat.ne_of_gt hzlt) (Heap.get?_push_size _ rfl))
  have hz8 : h₈.objs.size = h₅.objs.size + 1 := by rw [hs₈.1, hs₇.1, Heap.size_push]
  rw [hsz] at hz₈ hT₈ hz8
  refine wpAny_pure ⟨_, rfl, ?_⟩
  show Q (.ref h₅.objs.size) _
  rw [hsz]
  exact hQ h₈ hz₈ (up _ _ D.TOz hTO₅) (h1₅.at fun o e => up _ o D.itz e) hT₈ hz8 fun c o c1 c2 c3 e => up c o c1 (hk₅ c o c1 c2 c3 e)

theorem zipS_end {prog : Program} {w : World} {A : Around} {E : Value → Shared → Prop} {s : Shared} {z TI TO it l : Addr} {k : Nat} {xs : Array Value} {a b : Value} {Q : PySem.Fin → Shared → Prop} (hh : A.handled = none) (D : ZS z TI TO it l)
    (hz : IsZip s.heap z TI TO .none) (hTI : IsPair s.heap TI (.ref it) (.ref it)) (hTO : IsPair s.heap TO a b)
    (h1 : s.heap.IsListIter it l k) (hl : s.heap.IsList l xs) (hx : xs[k]? = none)
    (hE : ∀ h' e, (∀ c o, c ≠ z → c ≠ TO → c ≠ it → s.heap.get? c = some o → h'.get? c = some o) → (∃ o, h'.get? e = some o ∧ o.cls = .type "StopIteration") → E (.ref e) { s with heap := h' }) :
    wpAny (model prog w) A (Builtin.«zip.__next__» ⟨[.ref z], []⟩) Q E s := by
  show wpAny _ _ (field (.ref z) 2 >>= _) _ _ _
  refine wpAny_bind (wpAny_field hz rfl (x := .bool false) rfl ?_)
  show wpAny _ _ (field (.ref z) 3 >>= _) _ _ _
  refine wpAny_bind (wpAny_field hz rfl (x := .ref TI) rfl ?_)
  refine wpAny_bind (wpAny_seqItems hTI rfl ?_)
  show wpAny _ _ (Builtin.SmallTypes.ownedTupleIsFree (.ref z) >>= _) _ _ _
  refine wpAny_bind ?_
  unfold Builtin.SmallTypes.ownedTupleIsFree
  refine wpAny_bind (wpAny_field hz rfl (x := .none) rfl (wpAny_pure ?_))
  simp only [if_true]
  refine wpAny_bind (wpAny_rule ?_)
  refine wpAny_bind (wpAny_field hz rfl (x := .ref TO) rfl ?_)
  refine wpAny_bind (wpAny_setField_rec hz (by simp) fun h₁ hz₁ hs₁ => ?_)
  replace hz₁ : IsZip h₁ z TI TO .ellipsis := hz₁
  refine wpAny_bind ?_
  simp only [List.zipIdx_cons, List.zipIdx_nil, List.forIn_cons, List.forIn_nil]
  refine wpAny_bind (wpAny_bind (wpAny_onRaise ?_))
  show wpAny _ _ (Builtin.SmallTypes.nextOf (.ref it) >>= _) _ _ _
  refine wpAny_bind (wpAny_nextOf_list_end hh (h1.extBut hs₁.extBut D.itz) (hl.extBut hs₁.extBut D.lz) hx fun h₂ e hs₂ he => ?_)
  obtain ⟨oe, hoe, hce⟩ := he
  have hz₂ : IsZip h₂ z TI TO .ellipsis := hs₂ _ _ D.itz.symm hz₁
  have hez : e ≠ z := fun x => by subst x; rw [hz₂] at hoe; cases hoe; simp at hce
  exact wpAny_setField_rec hz₂ (by simp) fun h₃ _ hs₃ => hE h₃ e (fun c o c1 _ c3 x => hs₃.extBut _ _ c1 (hs₂ _ _ c3 (hs₁.extBut _ _ c1 x))) ⟨oe, hs₃.extBut _ _ hez hoe, hce⟩

section
variable {prog : Program} {w : World} {A : Around} {E : Value → Shared → Prop} {s : Shared} {z TI TO it l : Addr} {k : Nat} {xs : Array Value} {x y a b : Value} {Q : Option Value → Shared → Prop}
theorem nextS_item (D : ZS z TI TO it l) (hz : IsZip s.heap z TI TO .none) (hTI : IsPair s.heap TI (.ref it) (.ref it)) (hTO : IsPair s.heap TO a b)
    (h1 : s.heap.IsListIter it l k) (hl : s.heap.IsList l xs) (hx : xs[k]? = some x) (hy : xs[k + 1]? = some y)
    (hQ : ∀ h', IsZip h' z TI TO (rawInt s.heap.objs.size) → IsPair h' TO x y → h'.IsListIter it l (k + 2) → IsPair h' s.heap.objs.size x y → h'.objs.size = s.heap.objs.size + 1 →
      (∀ c o, c ≠ z → c ≠ TO → c ≠ it → s.heap.get? c = some o → h'.get? c = some o) → Q (some (.ref s.heap.objs.size)) { s with heap := h' }) :
    wpAny (model prog w) A (pyNext (.ref z)) Q E s := by
  have hT : s.TypeIs (.ref z) "zip" := ⟨_, hz, rfl⟩
  unfold pyNext
  exact wpAny_bind (wpAny_attempt (wpAny_callSpecial?_slot (name := Str.ofString "__next__") hT F.slot_zip_next
    (wpAny_call_entry F.slot_zip_next hT F.entry_zip_next
      (zipS_item D hz hTI hTO h1 hl hx hy fun h' a1 a2 a3 a5 a6 a7 => wpAny_pure (hQ h' a1 a2 a3 a5 a6 a7)) (F.args_zip_next_1 _))))
theorem nextS_end (hh : A.handled = none) (D : ZS z TI TO it l) (hz : IsZip s.heap z TI TO .none) (hTI : IsPair s.heap TI (.ref it) (.ref it)) (hTO : IsPair s.heap TO a b)
    (h1 : s.heap.IsListIter it l k) (hl : s.heap.IsList l xs) (hx : xs[k]? = none)
    (hQ : ∀ h', (∀ c o, c ≠ z → c ≠ TO → c ≠ it → s.heap.get? c = some o → h'.get? c = some o) → Q none { s with heap := h' }) : wpAny (model prog w) A (pyNext (.ref z)) Q E s := by
  have hT : s.TypeIs (.ref z) "zip" := ⟨_, hz, rfl⟩
  unfold pyNext
  refine wpAny_bind (wpAny_attempt (wpAny_callSpecial?_slot (name := Str.ofString "__next__") hT F.slot_zip_next
    (wpAny_call_entry F.slot_zip_next hT F.entry_zip_next (zipS_end hh D hz hTI hTO h1 hl hx fun h' e hk he => ?_) (F.args_zip_next_1 _))))
  obtain ⟨o, ho, hc⟩ := he
  refine wpAny_bind (wpAny_isInstance (T := "StopIteration") (b := true) ⟨o, ho, hc⟩ isSubtype_stop ?_)
  exact wpAny_pure (hQ _ hk)
end
end Mine
end
section
namespace Mine
open PySem PySem.W PySem.W.X PyProof.Rows PySem.Calls

/-- some objects of the ledger turned by somebody else, some let go -/
theorem Bod.shift {c : Cx} {he : Heap} {L : Addr} {m : List (Str × Value)} {mu mu' rest : List (Addr × Obj)} {s : Shared} {h' : Heap} {t : Nat} (B : Bod c he L m (mu ++ rest) s)
    (k : ∀ b o, b ∉ mu.map (·.1) → s.heap.get? b = some o → h'.get? b = some o) (own : ∀ p ∈ mu', h'.get? p.1 = some p.2) (adr : (mu'.map (·.1)).Sublist (mu.map (·.1))) (hz : he.objs.size ≤ L) :
    Bod c he L m (mu' ++ rest) { s with heap := h', toks := t } := by
  have hnod := B.nod
  simp only [List.map_append, List.nodup_cons, List.mem_append, not_or] at hnod
  obtain ⟨⟨hL1, hL2⟩, hn⟩ := hnod
  rw [List.nodup_append] at hn
  obtain ⟨hn1, hn2, hn3⟩ := hn
  have low : ∀ b ∈ mu.map (·.1), 270 ≤ b := fun b hb => by
    obtain ⟨p, hp, rfl⟩ := List.mem_map.mp hb
    exact B.lowM p (List.mem_append_left _ hp)
  have hid : ∀ b ∈ mu.map (·.1), he.get? b = none := fun b hb => by
    obtain ⟨p, hp, rfl⟩ := List.mem_map.mp hb
    exact B.hidM p (List.mem_append_left _ hp)
  have kp : ∀ b o, b < 270 → s.heap.get? b = some o → h'.get? b = some o := fun b o hb e => k b o (fun q => absurd (low b q) (Nat.not_le.mpr hb)) e
  have hn' : h'.Ns L (fun x => m.lookup x) := by
    refine hG fun zP zK => ?_
    obtain ⟨oL, es, ep, ho, r⟩ := B.ns
    refine zK ?_
    exact ⟨oL, es, ep, k _ _ hL1 ho, r⟩
  have hl := hn'.lt
  have I : SInv c { s with heap := h', toks := t } :=
    ⟨fun b o e => kp b o (KS_lt e) (B.inv.kin b o e), oldK_low B.inv.old (Nat.le_of_eq c.szB) kp, Nat.le_trans B.lowL (Nat.le_of_lt hl), B.inv.t47.low kp (by decide) (by decide), B.inv.t183.low kp (by decide) (by decide), B.inv.t190.low kp (by decide) (by decide), B.inv.bare, B.inv.os⟩
  have mem' : ∀ p ∈ mu', p.1 ∈ mu.map (·.1) := fun p hp => adr.subset (List.mem_map_of_mem hp)
  refine ⟨I, hn', fun b o e => k b o (fun q => by rw [hid b q] at e; cases e) (B.keep _ _ e), B.hidT, B.hidL, ?_, ?_, ?_, B.lowL, ?_, Nat.le_trans hz (Nat.le_of_lt hl)⟩
  · intro p hp
    rcases List.mem_append.mp hp with hp | hp
    · exact hid _ (mem' p hp)
    · exact B.hidM p (List.mem_append_right _ hp)
  · intro p hp
    rcases List.mem_append.mp hp with hp | hp
    · exact own p hp
    · exact k _ _ (fun q => hn3 _ q _ (List.mem_map_of_mem hp) rfl) (B.own p (List.mem_append_right _ hp))
  · simp only [List.map_append, List.nodup_cons, List.mem_append, not_or]
    refine ⟨⟨fun q => hL1 (adr.subset q), hL2⟩, ?_⟩
    rw [List.nodup_append]
    exact ⟨adr.nodup hn1, hn2, fun a ha b hb => hn3 a (adr.subset ha) b hb⟩
  · intro p hp
    rcases List.mem_append.mp hp with hp | hp
    · exact low _ (mem' p hp)
    · exact B.lowM p (List.mem_append_right _ hp)

noncomputable abbrev zipO (TI TO : Addr) (f0 : Value) : Obj := ⟨.type "zip", none, .fields #[f0, .bool false, .bool false, .ref TI, .ref TO], #[]⟩
noncomputable abbrev liO (l : Addr) (i : Nat) : Obj := ⟨.type "list_iterator", none, .fields #[.ref l, .int i 0], #[]⟩
noncomputable abbrev zmu (z TI TO it l : Addr) (o : Obj) (a b : Value) (xs : Array Value) (ep : Nat) : List (Addr × Obj) :=
  [(z, zipO TI TO .none), (TO, tupO [a, b]), (it, o), (TI, tupO [.ref it, .ref it]), (l, lstO xs ep)]

section
variable {prog : Program} {w : World} {A : Around} {E : Value → Shared → Prop} {s : Shared}
noncomputable abbrev zsH1 (h : Heap) (it : Addr) : Heap := h.push { cls := .type "tuple", data := .seq #[.ref it, .ref it] }
noncomputable abbrev zsH2 (h : Heap) (it : Addr) : Heap := (zsH1 h it).push { cls := .type "tuple", data := .seq #[.none, .none] }
noncomputable abbrev zsH3 (h : Heap) (it : Addr) : Heap := (zsH2 h it).push { cls := .type "zip", data := .fields #[.none, .bool false, .bool false, .ref h.objs.size, .ref (zsH1 h it).objs.size] }
theorem meets_zip_newS (it l : Addr) (k : Nat) :
    Meets (Builtin.«zip.__new__» ⟨[.type "zip", .ref it, .ref it], []⟩) (fun _ R s => s.heap.IsListIter it l k ∧
      R (.ok (.ret (.ref (zsH2 s.heap it).objs.size))) { s with heap := zsH3 s.heap it }) :=
  .of_wp fun prog w A R s h => by
    obtain ⟨hp, g, d, tk, os⟩ := s; obtain ⟨hl1, h⟩ := h
    have hsub := sub_zip
    have hL1 : Heap.IsListIter (Shared.heap ⟨hp, g, d, tk, os⟩) it l k := hl1
    wp_walk using wpAny_pyIter_listiter hL1
    exact ⟨_, rfl, h⟩

theorem call_zip_S {it l : Addr} {k : Nat} {Q : Value → Shared → Prop} (hit : s.heap.IsListIter it l k)
    (h : Q (.ref (s.heap.objs.size + 2)) { s with heap := ((s.heap.push (tupO [.ref it, .ref it])).push (tupO [.none, .none])).push (zipO s.heap.objs.size (s.heap.objs.size + 1) .none) }) :
    wpAny (model prog w) A (call (.type "zip") [.ref it, .ref it]) Q E s := by
  refine callType_new F.called_zip (by decide) (F.typeCall_zip_2 _ _) (F.newCall_zip_2 _ _) (fun obj => F.args_object_init_3 obj _ _) F.entry_zip_new
    (meets_zip_newS it l k) ⟨hit, ?_⟩
  have z1 : (zsH1 s.heap it).objs.size = s.heap.objs.size + 1 := Heap.size_push ..
  have z2 : (zsH2 s.heap it).objs.size = s.heap.objs.size + 2 := by rw [Heap.size_push, z1]
  have g5 : (zsH3 s.heap it).get? (zsH2 s.heap it).objs.size = some _ := Heap.get?_push_size _ rfl
  show _ ∧ _
  refine ⟨⟨_, g5, rfl⟩, ?_⟩
  rw [z2]
  show Q _ { s with heap := ((s.heap.push _).push _).push (zipO s.heap.objs.size (zsH1 s.heap it).objs.size .none) }
  rw [z1]
  exact h
end

inductive ZI2 (c : Cx) (he : Heap) (L z TI TO it l : Addr) (xs : Array Value) (ep N : Nat) (J : Nat → List (Str × Value) → List (Addr × Obj) → Prop) (n : Nat) (s : Shared) : Prop
  | mk (j : Nat) (o : Obj) (a b : Value) (m : List (Str × Value)) (mu : List (Addr × Obj)) (h1 : n = N - j) (h2 : j ≤ N) (h3 : o.cls = .type "list_iterator") (h4 : o.data = .fields #[.ref l, .int (2 * j : Nat) 0]) (h5 : J j m mu) (h6 : Bod c he L m (zmu z TI TO it l o a b xs ep ++ mu) s) : ZI2 c he L z TI TO it l xs ep N J n s
/-- a loop over zip of one list iterator twice -/
theorem zipS_loop {c : Cx} {A : Around} {he : Heap} {L : Addr} {env : Env} {body orelse : List Stmt} {R : Result → Shared → Prop} {n1 n2 : Str} {p1 p2 pt : Pos} {kt : Nat}
    (J : Nat → List (Str × Value) → List (Addr × Obj) → Prop) (xs : Array Value) (N : Nat) (hN : xs.size = 2 * N) (hh : A.handled = none) (hL : env.locals = L) (hk : env.scope.kind = .function)
    (hl1 : env.kindOf n1 = some .local) (hl2 : env.kindOf n2 = some .local) (hz : he.objs.size ≤ L)
    (turn : ∀ j m mu s x y (zm : List (Addr × Obj)), j < N → xs[2 * j]? = some x → xs[2 * j + 1]? = some y → J j m mu → Bod c he L ((n2, y) :: (n1, x) :: m) (mu ++ zm) s →
      wpAny c.M A (execs body env) (fun f s₃ => match f with
          | .next | .cont => ∃ m' mu', J (j + 1) m' mu' ∧ Bod c he L m' (mu' ++ zm) s₃
          | .brk => R (.ok .next) s₃
          | .ret v => R (.ok (.ret v)) s₃) (notedBy c.M A env fun e s' => R (.error e) s') s)
    (done : ∀ m mu s, J N m mu → Bod c he L m mu s → wpAny c.M A (execs orelse env) (fun f s₃ => R (.ok f) s₃) (notedBy c.M A env fun e s' => R (.error e) s') s)
    {z TI TO it l : Addr} {o : Obj} {a b : Value} {ep : Nat} {m : List (Str × Value)} {mu : List (Addr × Obj)} {s : Shared} (hoc : o.cls = .type "list_iterator") (hod : o.data = .fields #[.ref l, .int (0 : Nat) 0])
    (h0 : J 0 m mu) (B : Bod c he L m (mu ++ zmu z TI TO it l o a b xs ep) s) : codeAny c.M A (.forLoop (.Tuple [.Name n1 p1, .Name n2 p2] kt pt) (.ref z) body orelse env) R s := by
  have nd : ZS z TI TO it l := by
    have hn := (B.perm (mu' := zmu z TI TO it l o a b xs ep ++ mu) List.perm_append_comm).nod
    exact ⟨nI hn 3 0 rfl rfl rfl, nI hn 1 0 rfl rfl rfl, nI hn 2 0 rfl rfl rfl, nI hn 3 1 rfl rfl rfl, nI hn 3 2 rfl rfl rfl, nI hn 1 2 rfl rfl rfl, nI hn 4 0 rfl rfl rfl, nI hn 4 1 rfl rfl rfl, nI hn 4 2 rfl rfl rfl⟩
  refine codeAny_forLoop_any (ZI2 c he L z TI TO it l xs ep N J) ?_ N
    ⟨0, o, a, b, m, mu, rfl, Nat.zero_le _, hoc, hod, h0, B.perm List.perm_append_comm⟩
  intro n s zz1
  refine hG fun zP zK => ?_
  obtain ⟨j, o, a, b, m, mu, rfl, hj, hc, hd, hJ, B⟩ := zz1
  refine zK ?_
  have hz' : IsZip s.heap z TI TO .none := B.own (z, zipO TI TO .none) (mI 0 rfl)
  have hTI : IsPair s.heap TI (.ref it) (.ref it) := B.own (TI, tupO [.ref it, .ref it]) (mI 3 rfl)
  have hTO : IsPair s.heap TO a b := B.own (TO, tupO [a, b]) (mI 1 rfl)
  have hit : s.heap.IsListIter it l (2 * j) := ⟨o, B.own (it, o) (mI 2 rfl), hc, hd⟩
  have hl : s.heap.IsList l xs := ⟨_, B.own (l, lstO xs ep) (mI 4 rfl), rfl, _, rfl⟩
  by_cases hlt : j < N
  · have hx : xs[2 * j]? = some xs[2 * j] := Array.getElem?_eq_getElem (by omega)
    have hy : xs[2 * j + 1]? = some xs[2 * j + 1] := Array.getElem?_eq_getElem (by omega)
    refine nextS_item nd hz' hTI hTO hit hl hx hy ?_
    intro h1 z1 t1 i1 p1' sz1 k1
    dsimp only
    have nT : ∀ b o, s.heap.get? b = some o → b ≠ s.heap.objs.size := fun b o e => Nat.ne_of_lt (Heap.lt_size e)
    refine wpAny_letOwnedTupleGo_zip (s := { s with heap := h1 }) z1 ?_
    intro h2 z2 k2
    have p2 : IsPair h2 s.heap.objs.size xs[2 * j] xs[2 * j + 1] := k2.extBut _ _ (Ne.symm (nT _ _ hz')) p1'
    refine assign_Tuple_tuple hh ⟨_, p2, rfl, _, rfl⟩ rfl rfl ?_
    intro h3 x3
    have kk : ∀ b o, h2.get? b = some o → h3.get? b = some o := fun b o e => x3 b o (Nat.ne_of_lt (Heap.lt_size e)) e
    refine hG fun zP zK => ?_
    obtain ⟨oi, ei, ci, di⟩ := i1
    refine zK ?_
    have B1 := B.shift (mu := [(z, zipO TI TO .none), (TO, tupO [a, b]), (it, o)]) (rest := (TI, tupO [.ref it, .ref it]) :: (l, lstO xs ep) :: mu) (mu' := [(z, zipO TI TO .none), (TO, tupO [xs[2 * j], xs[2 * j + 1]]), (it, oi)]) (h' := h3) (t := s.toks) ?_ ?_ (List.Sublist.refl _) hz
    · refine assignInOrder_cons ?_
      refine wpAny_assign_Name ?_
      refine b_store B1 hL hk hl1 ?_
      intro s4 B4
      refine assignInOrder_cons ?_
      refine wpAny_assign_Name ?_
      refine b_store B4 hL hk hl2 ?_
      intro s5 B5
      refine assignInOrder_nil ?_
      refine wpAny_mono (turn j m mu s5 _ _ (zmu z TI TO it l oi xs[2 * j] xs[2 * j + 1] xs ep) hlt hx hy hJ (B5.perm (List.perm_append_comm (l₁ := zmu z TI TO it l oi xs[2 * j] xs[2 * j + 1] xs ep)))) (fun f s₃ h₃ => ?_) fun _ _ e => e
      have fin : (∃ m' mu', J (j + 1) m' mu' ∧ Bod c he L m' (mu' ++ zmu z TI TO it l oi xs[2 * j] xs[2 * j + 1] xs ep) s₃) → ∃ n', n' < N - j ∧ ZI2 c he L z TI TO it l xs ep N J n' s₃ := by
        intro zz1
        refine hG fun zP zK => ?_
        obtain ⟨m', mu', a1, a2⟩ := zz1
        refine zK ?_
        exact ⟨N - (j + 1), by omega, j + 1, oi, _, _, m', mu', rfl, hlt, ci, di, a1, a2.perm List.perm_append_comm⟩
      cases f with
      | next => exact fin h₃
      | cont => exact fin h₃
      | brk => exact h₃
      | ret v => exact h₃
    · intro b' o' hb e
      simp only [List.map_cons, List.map_nil, List.mem_cons, List.not_mem_nil, or_false, not_or] at hb
      exact kk _ _ (k2.extBut _ _ hb.1 (k1 _ _ hb.1 hb.2.1 hb.2.2 e))
    · intro p hp
      simp only [List.mem_cons, List.not_mem_nil, or_false] at hp
      rcases hp with rfl | rfl | rfl
      · exact kk _ _ z2
      · exact kk _ _ (k2.extBut _ _ nd.TOz t1)
      · exact kk _ _ (k2.extBut _ _ nd.itz ei)
  · have ej : j = N := by omega
    subst ej
    refine nextS_end hh nd hz' hTI hTO hit hl (Array.getElem?_eq_none (by omega)) ?_
    intro h1 k1
    have B1 := B.shift (mu := [(z, zipO TI TO .none), (TO, tupO [a, b]), (it, o)]) (rest := (TI, tupO [.ref it, .ref it]) :: (l, lstO xs ep) :: mu) (mu' := []) (h' := h1) (t := s.toks) ?_ (fun _ h => nomatch h) (List.nil_sublist _) hz
    · exact done m mu _ hJ (B1.drop (.cons _ (.cons _ (.refl _))))
    · intro b' o' hb e
      simp only [List.map_cons, List.map_nil, List.mem_cons, List.not_mem_nil, or_false, not_or] at hb
      exact k1 _ _ hb.1 hb.2.1 hb.2.2 e
end Mine
end
section
namespace Mine
open PySem PySem.W PySem.W.X PyProof.Rows PySem.Calls

section
variable {c : Cx} {A : Around} {E : Value → Shared → Prop} {s : Shared}
/-- a store into a plain list -/
theorem setItem_lst {a : Addr} {iv v : Value} {Q : Unit → Shared → Prop} (hT : s.TypeIs (.ref a) "list")
    (h : wpAny c.M A.in1 (Builtin.«list.__setitem__» ⟨[.ref a, iv, v], []⟩) (fun fin s' => ∃ v, fin = .done (.ret v) ∧ Q () s') E s) : wpAny c.M A (setItem (.ref a) iv v) Q E s := by
  unfold setItem
  refine wpAny_holding ?_
  refine wpAny_bind (wpAny_sequenceKey hT (by decide) ?_)
  refine wpAny_bind (wpAny_callSpecial?_slot (name := Str.ofString "__setitem__") hT slot_list_setitem
    (wpAny_call_entry slot_list_setitem hT entry_list_setitem ?_ (args_list_setitem _ _ _)))
  refine wpAny_mono h (fun fin s' hf => ?_) fun _ _ e => e
  obtain ⟨v, rfl, hv⟩ := hf
  exact ⟨v, rfl, wpAny_pure hv⟩
theorem getItem_lst {a : Addr} {iv : Value} {Q : Value → Shared → Prop} (hT : s.TypeIs (.ref a) "list")
    (h : wpAny c.M A.in1 (Builtin.«list.__getitem__» ⟨[.ref a, iv], []⟩) (fun fin s' => ∃ v, fin = .done (.ret v) ∧ Q v s') E s) : wpAny c.M A (getItem (.ref a) iv) Q E s := by
  unfold getItem
  refine wpAny_holding ?_
  refine wpAny_bind (wpAny_sequenceKey hT (by decide) ?_)
  refine wpAny_bind (wpAny_callSpecial?_slot (name := Str.ofString "__getitem__") hT slot_list_getitem
    (wpAny_call_entry slot_list_getitem hT entry_list_getitem ?_ (args_list_getitem _ _)))
  refine wpAny_mono h (fun fin s' hf => ?_) fun _ _ e => e
  obtain ⟨v, rfl, hv⟩ := hf
  exact ⟨v, rfl, wpAny_pure hv⟩
/-- iter of a plain list -/
theorem call_iter {l : Addr} {items : Array Value} {Q : Value → Shared → Prop} (hl : s.heap.IsList l items)
    (h : Q (.ref s.heap.objs.size) { s with heap := s.heap.push (liO l 0) }) : wpAny c.M A (call (.builtin "iter") [.ref l]) Q E s := by
  refine call_function_entry (by decide +kernel) (by decide +kernel) kdk_entry_iter (kdk_args_iter _) ?_
  unfold Builtin.«iter»
  refine wpAny_bind (m := someArgs "iter" 1 2 _) (wpAny_of_eq (a := [Value.ref l]) (by first | rfl | kernel_rfl!) ?_)
  show wpAny _ _ (pyIter (.ref l) >>= _) _ _ _
  refine wpAny_bind (wpAny_pyIter_list hl ?_)
  exact wpAny_pure ⟨_, rfl, h⟩
theorem b_mul2 {l : Addr} {v : Value} {k : Nat} {u : Tok} {Q : Value → Shared → Prop} (hl : s.heap.get? l = some (lstO #[v] k))
    (h : Q (.ref s.heap.objs.size) { s with heap := s.heap.push (lstO #[v, v] 0) }) : wpAny c.M A (binaryOp .Mult (.ref l) (.int 2 u)) Q E s := by
  refine wpAny_binaryOp_repeat_ref (T := "list") (U := "int") (by decide) ⟨_, hl, rfl⟩ (fun s' => typeIs_int s' 2 u) noFill_list_mul F.fills_int_mul F.slot_int_rmul repeat_list F.slot_int_index.lookup
    (call_meets F.slot_int_rmul (typeIs_int s 2 u) F.entry_int_rmul (F.args_int_rmul_2 _ _) (int___rmul___int_list 2 u l #[v] k)
      ⟨hl, rfl, ⟨_, hl, rfl⟩, call_meets F.slot_list_mul ⟨_, hl, rfl⟩ F.entry_list_mul (F.args_list_mul_2 _ _)
        (AutoListH.list___mul___list_int_3 l #[v] k 2 u (by simp [Builtin.List.listFitsIndex]) (by simp) (by simp [Builtin.List.listTooLong, sizeLine]))
        ⟨hl, ?_⟩⟩)
  exact h
/-- the call of a builtin class with one starred argument -/
theorem cw_starT {T : String} {env : Env} {e : Expr} {pos p : Pos} {Q : Value → Shared → Prop}
    (h : wpAny c.M A (eval e env) (fun v s₁ => StarOf c.M A E v (fun vs s₂ => wpAny c.M A (call (.type T) vs) Q E s₂) s₁) E s) :
    wpAny c.M A (callWith pos (.type T) [] (backTo pos (starEach [.Starred e p] env)) []) Q E s := by
  refine ks_call (P := fun _ => True) rfl (fun h _ => ⟨.machine, .inr (.inl rfl), Looks.now⟩) ?_
  refine ks_lone (wpAny_mono h (fun v s₁ h₁ => ?_) fun _ _ e => e)
  unfold StarOf at h₁ ⊢
  exact wpAny_mono h₁ (fun b s₂ h₂ => ⟨h₂.1, wpAny_mono h₂.2 (fun vs s₃ h₃ => ⟨trivial, h₃⟩) fun _ _ e => e⟩) fun _ _ e => e
theorem star_lst {T : Addr} {items : Array Value} {ep : Nat} {Q : List Value → Shared → Prop} (hT : s.heap.get? T = some (lstO items ep)) (hz : items.size ≤ sizeLine)
    (h : ∀ h', Kept s.heap h' → Q items.toList { s with heap := h' }) : StarOf c.M A E (.ref T) Q s := by
  have hT' : s.TypeIs (.ref T) "list" := ⟨_, hT, rfl⟩
  have z : wpAny c.M A (collect (.ref T)) Q E s := by
    refine wpAny_collect_seq T (.inl rfl) hT rfl rfl (fun h' hk => ?_) hz
    exact h h' hk
  unfold StarOf notIterableAtAll
  exact wpAny_bind (wpAny_specialOf hT' PySem.F.slot_list_iter.lookup (wpAny_pure ⟨rfl, z⟩))
end
end Mine
end
section
namespace Mine
open PySem PySem.W PySem.W.X PyProof.Rows PySem.Calls

/-- one chunk laid: the finished lines, the parts of the line under way -/
noncomputable def chunkS (W : Int) (st : List Str × List (Str × Str)) (p : Str × Str) : List Str × List (Str × Str) :=
  match cut W (st.2 ++ [p]) with
  | none => (st.1, st.2 ++ [p])
  | some i => (st.1 ++ [lineOf ((st.2 ++ [p]).take i)], (st.2 ++ [p]).drop i)
noncomputable def pairsOf (ws : List (List Nat)) : List (Str × Str) := match ws with
  | [] => []
  | w :: r => (⟨⟨[]⟩⟩, ⟨⟨w⟩⟩) :: r.map fun v => (⟨⟨[32]⟩⟩, ⟨⟨v⟩⟩)
noncomputable def layS (W : Int) (ps : List (Str × Str)) : List Str × List (Str × Str) := ps.foldl (chunkS W) ([], [])

theorem layS_snoc (W : Int) (ps : List (Str × Str)) (p : Str × Str) : layS W (ps ++ [p]) = chunkS W (layS W ps) p := by unfold layS; rw [List.foldl_append]; rfl
theorem chunkS_len (W : Int) (st : List Str × List (Str × Str)) (p : Str × Str) : (chunkS W st p).1.length ≤ st.1.length + 1 ∧ (chunkS W st p).2.length ≤ st.2.length + 1 ∧ ∀ q ∈ (chunkS W st p).2, q ∈ st.2 ∨ q = p := by
  have mm : ∀ q ∈ st.2 ++ [p], q ∈ st.2 ∨ q = p := fun q hq => by
    rcases List.mem_append.mp hq with h | h
    · exact .inl h
    · exact .inr (List.mem_singleton.mp h)
  unfold chunkS
  split
  · exact ⟨by simp, by simp, mm⟩
  · exact ⟨by simp, by simp, fun q hq => mm q (List.mem_of_mem_drop hq)⟩
theorem layS_len (W : Int) : ∀ (n : Nat) (ps : List (Str × Str)), ps.length = n → (layS W ps).1.length ≤ n ∧ (layS W ps).2.length ≤ n ∧ ∀ q ∈ (layS W ps).2, q ∈ ps
  | 0, ps, h => by
    have := List.eq_nil_of_length_eq_zero h
    subst this
    exact ⟨Nat.zero_le _, Nat.zero_le _, fun q hq => nomatch hq⟩
  | n + 1, ps, h => by
    have hne : ps ≠ [] := by intro e; rw [e] at h; cases h
    have e := List.dropLast_concat_getLast hne
    have hl : ps.dropLast.length = n := by simp [h]
    obtain ⟨a, b, d⟩ := layS_len W n _ hl
    rw [← e, layS_snoc]
    obtain ⟨a', b', d'⟩ := chunkS_len W (layS W ps.dropLast) (ps.getLast hne)
    refine ⟨by lia, by lia, fun q hq => ?_⟩
    rcases d' q hq with h1 | h1
    · exact List.mem_append_left _ (d q h1)
    · rw [h1]; exact List.mem_append_right _ (List.mem_singleton.mpr rfl)

/-- the parts that an accumulator's items stand for, the tuples in a ledger -/
noncomputable def PartsIn (nest : List (Addr × Obj)) (items : Array Value) (ps : List (Str × Str)) : Prop :=
  items.size = ps.length ∧ ∀ (j : Nat) (p : Str × Str), ps[j]? = some p → ∃ (T : Addr) (t t' : Tok), items[j]? = some (.ref T) ∧ (T, tupO [.str p.1 t, .str p.2 t']) ∈ nest
theorem PartsIn.mono {n n' : List (Addr × Obj)} {items : Array Value} {ps : List (Str × Str)} (a : PartsIn n items ps) (k : ∀ p ∈ n, p ∈ n') : PartsIn n' items ps :=
  ⟨a.1, fun j p hj => let ⟨T, t, t', q, b⟩ := a.2 j p hj; ⟨T, t, t', q, k _ b⟩⟩
theorem PartsIn.snoc {n : List (Addr × Obj)} {items : Array Value} {ps : List (Str × Str)} {T : Addr} {p : Str × Str} {t t' : Tok} (a : PartsIn n items ps) (e : (T, tupO [.str p.1 t, .str p.2 t']) ∈ n) : PartsIn n (items.push (.ref T)) (ps ++ [p]) := by
  refine ⟨by simp [a.1], fun j q hj => ?_⟩
  by_cases hlt : j < ps.length
  · rw [List.getElem?_append_left hlt] at hj
    obtain ⟨T', u, u', q1, b⟩ := a.2 j q hj
    refine ⟨T', u, u', ?_, b⟩
    rw [Array.getElem?_push_lt (by rw [a.1]; exact hlt)]
    have hlt' : j < items.size := by rw [a.1]; exact hlt
    rw [Array.getElem?_eq_getElem hlt'] at q1
    exact q1
  · have hj2 : j = ps.length := by
      have := (List.getElem?_eq_some_iff.mp hj).1
      simp at this; lia
    subst hj2
    rw [List.getElem?_append_right (Nat.le_refl _)] at hj
    simp at hj
    subst hj
    exact ⟨T, t, t', by rw [← a.1]; simp, e⟩
theorem PartsIn.drop {h : List (Addr × Obj)} {items : Array Value} {ps : List (Str × Str)} (a : PartsIn h items ps) (i : Nat) : PartsIn h (items.toList.drop i).toArray (ps.drop i) := by
  refine ⟨by simp [a.1], fun j p hj => ?_⟩
  rw [List.getElem?_drop] at hj
  obtain ⟨T, t, t', q, b⟩ := a.2 _ p hj
  refine ⟨T, t, t', ?_, b⟩
  rw [List.getElem?_toArray, List.getElem?_drop, Array.getElem?_toList]; exact q
theorem PartsIn.at {c : Cx} {he : Heap} {L : Addr} {m : List (Str × Value)} {mu rest nest : List (Addr × Obj)} {s : Shared} {items : Array Value} {ps : List (Str × Str)} (a : PartsIn nest items ps) (B : Bod c he L m (mu ++ rest) s) (k : ∀ p ∈ nest, p ∈ rest) : PartsAt (Hid mu s) items ps := by
  refine ⟨a.1, fun j p hj => ?_⟩
  obtain ⟨T, t, t', q, b⟩ := a.2 j p hj
  have hm := k _ b
  have lo := B.lowM _ (List.mem_append_right mu hm)
  refine ⟨T, t, t', q, hideAll_get _ (B.own _ (List.mem_append_right mu hm)) ?_, lo⟩
  intro hb
  rcases List.mem_append.mp hb with hb | hb
  · exact Bod.notTab _ lo hb
  · have hn := B.nod
    simp only [List.map_append, List.nodup_cons] at hn
    have hn := hn.2
    rw [List.nodup_append] at hn
    exact hn.2.2 _ hb _ (List.mem_map_of_mem hm) rfl

theorem pieces_get : ∀ (ws : List (List Nat)) (j : Nat) (w : List Nat), ws[j]? = some w → ((⟨⟨[]⟩⟩ : Str) :: pieces ws)[2 * j]? = (pairsOf ws)[j]?.map (·.1) ∧ ((⟨⟨[]⟩⟩ : Str) :: pieces ws)[2 * j + 1]? = (pairsOf ws)[j]?.map (·.2)
  | [], j, w, h => by simp at h
  | [v], 0, w, h => ⟨rfl, rfl⟩
  | [v], j + 1, w, h => by simp at h
  | v :: v2 :: r, 0, w, h => ⟨rfl, rfl⟩
  | v :: v2 :: r, j + 1, w, h => by
    have ih := pieces_get (v2 :: r) j w (by simpa using h)
    have e : pieces (v :: v2 :: r) = ⟨⟨v⟩⟩ :: ⟨⟨[32]⟩⟩ :: pieces (v2 :: r) := rfl
    have e1 : 2 * (j + 1) = 2 * j + 1 + 1 := by lia
    rw [e, e1]
    simp only [List.getElem?_cons_succ]
    have hp : (pairsOf (v :: v2 :: r))[j + 1]? = (v2 :: r)[j]?.map fun v => ((⟨⟨[32]⟩⟩ : Str), (⟨⟨v⟩⟩ : Str)) := by
      show (((v2 :: r).map fun v => ((⟨⟨[32]⟩⟩ : Str), (⟨⟨v⟩⟩ : Str))))[j]? = _
      rw [List.getElem?_map]
    rw [hp]
    have h' : (v2 :: r)[j]? = some w := by simpa using h
    rw [h']
    cases j with
    | zero =>
      cases h'
      refine ⟨rfl, ?_⟩
      have := ih.2
      have e3 : (pairsOf (v2 :: r))[0]? = some (⟨⟨[]⟩⟩, ⟨⟨v2⟩⟩) := rfl
      rw [e3] at this
      simpa using this
    | succ i =>
      have hq : (pairsOf (v2 :: r))[i + 1]? = r[i]?.map fun v => ((⟨⟨[32]⟩⟩ : Str), (⟨⟨v⟩⟩ : Str)) := by
        show ((r.map fun v => ((⟨⟨[32]⟩⟩ : Str), (⟨⟨v⟩⟩ : Str))))[i]? = _
        rw [List.getElem?_map]
      have h2 : r[i]? = some w := by simpa using h'
      rw [hq, h2] at ih
      have e2 : 2 * (i + 1) = 2 * i + 1 + 1 := by lia
      rw [e2] at ih ⊢
      simp only [List.getElem?_cons_succ] at ih ⊢
      exact ih
theorem pieces_length : ∀ (ws : List (List Nat)), ws ≠ [] → (pieces ws).length + 1 = 2 * ws.length
  | [], h => absurd rfl h
  | [v], _ => rfl
  | v :: v2 :: r, _ => by
    have ih := pieces_length (v2 :: r) (by simp)
    have e : pieces (v :: v2 :: r) = ⟨⟨v⟩⟩ :: ⟨⟨[32]⟩⟩ :: pieces (v2 :: r) := rfl
    rw [e]
    simp only [List.length_cons] at ih ⊢
    lia
theorem pairsOf_length (ws : List (List Nat)) : (pairsOf ws).length = ws.length := by cases ws <;> simp [pairsOf]
theorem strsAre_get : ∀ {vs : List Value} {ys : List Str}, StrsAre vs ys → ∀ (j : Nat) (y : Str), ys[j]? = some y → ∃ t, vs[j]? = some (.str y t)
  | _, _, .nil, j, y, h => by simp at h
  | _, _, .cons z t r, 0, y, h => by simp at h; subst h; exact ⟨t, rfl⟩
  | _, _, .cons z t r, j + 1, y, h => by simpa using strsAre_get r j y (by simpa using h)
end Mine
end
section
namespace Mine
open PySem PySem.W PySem.W.X PyProof.Rows PySem.Calls
theorem pick_nodup {mu : List (Addr × Obj)} (hn : (mu.map (·.1)).Nodup) : ∀ (ix : List Nat), ix.Nodup → ((ix.filterMap fun i => mu[i]?).map (·.1)).Nodup
  | [], _ => by simp
  | i :: r, h => by
    rw [List.nodup_cons] at h
    have ih := pick_nodup hn r h.2
    rw [List.filterMap_cons]
    split
    · exact ih
    · rename_i p hp
      rw [List.map_cons, List.nodup_cons]
      refine ⟨fun hm => ?_, ih⟩
      obtain ⟨q, hq, e⟩ := List.mem_map.mp hm
      obtain ⟨j, hj, hq⟩ := List.mem_filterMap.mp hq
      have h1 : (mu.map (·.1))[i]? = some p.1 := by rw [List.getElem?_map, hp]; rfl
      have h2 : (mu.map (·.1))[j]? = some q.1 := by rw [List.getElem?_map, hq]; rfl
      have hlt : i < (mu.map (·.1)).length := (List.getElem?_eq_some_iff.mp h1).1
      have : i = j := (List.getElem?_inj hlt hn).mp (by rw [h1, h2, e])
      exact h.1 (this ▸ hj)
/-- some objects of the ledger, in another order -/
theorem Bod.pick {c : Cx} {he : Heap} {L : Addr} {m : List (Str × Value)} {mu rest : List (Addr × Obj)} {s : Shared} (B : Bod c he L m (mu ++ rest) s) (ix : List Nat) (hn : ix.Nodup := by decide) :
    Bod c he L m ((ix.filterMap fun i => mu[i]?) ++ rest) s := by
  have sub : ∀ p ∈ (ix.filterMap fun i => mu[i]?) ++ rest, p ∈ mu ++ rest := fun p hp => by
    rcases List.mem_append.mp hp with h | h
    · obtain ⟨j, _, hq⟩ := List.mem_filterMap.mp h
      exact List.mem_append_left _ (List.mem_of_getElem? hq)
    · exact List.mem_append_right _ h
  refine ⟨B.inv, B.ns, B.keep, B.hidT, B.hidL, fun p hp => B.hidM p (sub p hp), fun p hp => B.own p (sub p hp), ?_, B.lowL, fun p hp => B.lowM p (sub p hp), B.size⟩
  have hb := B.nod
  rw [List.nodup_cons, List.map_append, List.nodup_append] at hb
  obtain ⟨hL, h1, h2, h3⟩ := hb
  have sub1 : ∀ a ∈ (ix.filterMap fun i => mu[i]?).map (·.1), a ∈ mu.map (·.1) := fun a ha => by
    obtain ⟨p, hp, rfl⟩ := List.mem_map.mp ha
    obtain ⟨j, _, hq⟩ := List.mem_filterMap.mp hp
    exact List.mem_map_of_mem (List.mem_of_getElem? hq)
  rw [List.nodup_cons, List.map_append, List.nodup_append]
  refine ⟨fun hm => hL ?_, pick_nodup h1 ix hn, h2, fun a ha b hb => h3 a (sub1 a ha) b hb⟩
  rcases List.mem_append.mp hm with hm | hm
  · exact List.mem_append_left _ (sub1 _ hm)
  · exact List.mem_append_right _ hm
/-- the whole ledger picked from -/
theorem Bod.pick0 {c : Cx} {he : Heap} {L : Addr} {m : List (Str × Value)} {mu : List (Addr × Obj)} {s : Shared} (B : Bod c he L m mu s) (ix : List Nat) (hn : ix.Nodup := by decide) :
    Bod c he L m (ix.filterMap fun i => mu[i]?) s := by
  have := Bod.pick (rest := []) (by rw [List.append_nil]; exact B) ix hn
  rwa [List.append_nil] at this
end Mine
end
section
namespace Mine
open PySem PySem.W PySem.W.X PyProof.Rows PySem.Calls

theorem ascii_spec {c : Cx} {k : Nat} {A : Around} {s : Shared} {x dx ac ad ln : Addr} {od : Obj} {epa epl : Nat} {t1 t0 tf tt ts : Tok} {W : Int} {text sep : Str} {ws : List (List Nat)} {Q : Value → Shared → Prop} {E : Value → Shared → Prop}
    (I : SInv c s) (R : Room (k + 10) A) (H : Has (vfMu c.w.params x dx ac ad ln od #[] epa t1 t0 #[] epl) s) (V : VfD c od W ln ac)
    (hne : ws ≠ []) (hw : Words ws) (hx : text.cps.toList = spaced ws) (hz : ∀ w ∈ ws, w.length ≤ 1000) (hn : ws.length ≤ 60)
    (h : ∀ items epa' t0' lines epl' nest s', MEv c (vfMu c.w.params x dx ac ad ln od #[] epa t1 t0 #[] epl) (vfMu c.w.params x dx ac ad ln od items epa' t1 t0' lines epl') nest s s' → StrsAre lines.toList (layS W (pairsOf ws)).1 → PartsIn nest items (layS W (pairsOf ws)).2 → Q .none s') :
    wpAny c.M A (call (.ref 127) [.ref x, .str ⟨⟨[]⟩⟩ tf, .str text tt, .str sep ts]) Q E s := by
  have hsz : text.cps.size ≤ 1000000 := by
    have e : text.cps.size = (spaced ws).length := by rw [← hx]; simp
    have : ∀ (ws : List (List Nat)), (∀ w ∈ ws, w.length ≤ 1000) → (spaced ws).length ≤ 1001 * ws.length := by
      intro ws
      induction ws with
      | nil => intro _; exact Nat.zero_le _
      | cons w r ih =>
        intro h
        have h1 := h w (List.mem_cons_self ..)
        have h2 := ih fun v hv => h v (List.mem_cons_of_mem _ hv)
        cases r with
        | nil => show w.length ≤ 1001 * 1; lia
        | cons w2 r2 =>
          rw [spaced_cons (by simp)]
          simp only [List.length_append, List.length_cons] at h2 ⊢
          lia
    have := this ws hz
    lia
  refine enterM [(n_splitchars, .str sep ts), (n_string, .str text tt), (n_fws, .str ⟨⟨[]⟩⟩ tf), (n_self, .ref x)] I R H (by walk_at "fn") ?_
  intro L s1 eL B R'
  have hzL : (Hid (vfMu c.w.params x dx ac ad ln od #[] epa t1 t0 #[] epl) s).objs.size ≤ L := by rw [hideAll_size, eL]; exact Nat.le_refl _
  refine sK ?_
  refine wpAny_Assign_Name ?_
  refine c_attr ?_
  refine b_glob B (gv_twin_re_1_u _) (by kernel_rfl) (by kernel_rfl) (by kernel_rfl) (by kernel_rfl) (by kernel_rfl) ?_
  refine ms_rsplit B.inv ?_
  refine cw_builtin ?_
  refine a_cons ?_
  refine wpAny_BinOp ?_
  walk_at "nm"
  walk_at "nm"
  refine b_add_str B ?_ ?_
  · show 0 + text.cps.size ≤ _; rw [sizeLine_val]; lia
  intro t2 s2 B2
  refine a_nil ?_
  have etx : (⟨⟨[]⟩⟩ : Str) ++ text = text := by
    obtain ⟨xc⟩ := text
    show Str.mk (#[] ++ xc) = _
    rw [Array.empty_append]
  rw [etx]
  refine call_rsplit B2.inv hsz hne hw hx ?_
  intro vs k2 hvs hvz
  have B3 := B2.alloc (lstO vs.toArray 0) k2 rfl
  generalize s2.heap.objs.size = PL at B3 ⊢
  refine b_store B3 (envF_locals _ _ _) (by kernel_rfl) (by kernel_rfl) ?_
  intro s4 B4
  clear B B2 B3
  dsimp only [seqK]
  obtain ⟨w0, r0, hws⟩ : ∃ w r, ws = w :: r := by cases ws with | nil => exact absurd rfl hne | cons w r => exact ⟨w, r, rfl⟩
  have hw0 : w0 ≠ [] := (hw w0 (by rw [hws]; exact List.mem_cons_self ..)).1
  have hp0 : (pieces ws)[0]? = some ⟨⟨w0⟩⟩ := by rw [hws]; cases r0 <;> rfl
  obtain ⟨tp, hv0⟩ := strsAre_get hvs 0 _ hp0
  refine sK ?_
  refine wpAny_If ?_
  refine wpAny_isTrue_value ?_
  refine e_sub "list" "list.__getitem__" lk_lst ?_
  walk_at "nm"
  refine b_int B4 ?_
  intro t5 s5 B5
  have l5 : s5.heap.IsList PL vs.toArray := ⟨_, B5.own (PL, lstO vs.toArray 0) (mI 0 rfl), rfl, _, rfl⟩
  refine ⟨l5.typeIs, ?_⟩
  refine wpAny_getItem_list (x := .str ⟨⟨w0⟩⟩ tp) l5 (by decide) (by decide) (by simpa using hv0) ?_
  have hw0z : w0.length ≤ 1000 := hz w0 (by rw [hws]; exact List.mem_cons_self ..)
  refine P.truthy_str (by have : (⟨⟨w0⟩⟩ : Str).length = w0.length := rfl; lia) ?_
  have htr : (((⟨⟨w0⟩⟩ : Str).length : Int) != 0) = true := by
    have : w0.length ≠ 0 := fun e => hw0 (List.eq_nil_of_length_eq_zero e)
    have : (((⟨⟨w0⟩⟩ : Str).length : Int) ≠ 0) := by show ((w0.length : Int) ≠ 0); lia
    simpa using this
  rw [htr]
  refine (if_pos rfl).mpr ?_
  have B6 := B5.toks (s5.toks + 1 + 1)
  clear B4 B5
  refine sK ?_
  refine wpAny_Assign_Subscript ?_
  refine e_listQ fun q1 e1 hq1 => ?_
  refine a_cons ?_
  refine b_str B6 ?_
  intro t7 s7 B7
  refine a_nil ?_
  refine hq1 _ _ _ _ _ _ (by walk_at "sz") B7 ?_
  intro q s8 B8 hq
  walk_at "nm"
  refine e_slice ?_
  rw [evalPart_some, evalPart_none]
  refine wpAny_pure ?_
  refine b_int B8 ?_
  intro t9 s9 B9
  refine ⟨_, _, _, _, B9, ?_⟩
  intro a10 s10 B10 k10 hs10
  have hfz : (1 : Nat) + vs.length ≤ sizeLine := by rw [sizeLine_val]; lia
  refine setItem_lst ⟨_, B10.own (PL, lstO vs.toArray 0) (mI 1 rfl), rfl⟩ ?_
  refine setSlice_body (pre := [(q, lstO #[.str ⟨⟨[]⟩⟩ t7] 0)]) (post := vfMu c.w.params x dx ac ad ln od #[] epa t1 t0 #[] epl) (new := #[.str ⟨⟨[]⟩⟩ t7]) (lo := none) (hi := some 0) (st := 0) (en := 0) (fin := (.str ⟨⟨[]⟩⟩ t7 :: vs).toArray) B10 rfl hs10 .none (.int _ _) ⟨_, B10.own (q, lstO #[.str ⟨⟨[]⟩⟩ t7] 0) (mI 0 rfl), rfl, _, rfl⟩ ?_ ?_ ?_ ?_ ?_ ?_
  · exact nI B10.nod 1 0 rfl rfl rfl
  · simpa [Nat.add_comm] using hfz
  · unfold sliceBounds; simp; lia
  · simp
  · simpa [Nat.add_comm] using hfz
  intro ep11 s11 B11
  refine ⟨_, rfl, ?_⟩
  dsimp only [seqK]
  refine wpAny_execs_nil ?_
  dsimp only [seqK]
  clear B6 B7 B8 B9 B10
  have B11 := B11.drop (mu' := (PL, lstO (.str ⟨⟨[]⟩⟩ t7 :: vs).toArray ep11) :: vfMu c.w.params x dx ac ad ln od #[] epa t1 t0 #[] epl) (.cons _ (.refl _))
  refine sK ?_
  refine wpAny_For ?_
  refine c_name ?_
  refine b_glob B11 (gv_zip _) (by kernel_rfl) (by kernel_rfl) (by kernel_rfl) (by kernel_rfl) (by kernel_rfl) ?_
  refine cw_starT ?_
  refine wpAny_BinOp ?_
  refine e_listQ fun q2 e2 hq2 => ?_
  refine a_cons ?_
  refine c_name ?_
  refine b_glob B11 (gv_iter _) (by kernel_rfl) (by kernel_rfl) (by kernel_rfl) (by kernel_rfl) (by kernel_rfl) ?_
  refine cw_builtin ?_
  refine a_cons ?_
  walk_at "nm"
  refine a_nil ?_
  refine call_iter (items := (.str ⟨⟨[]⟩⟩ t7 :: vs).toArray) ⟨_, B11.own (PL, lstO (.str ⟨⟨[]⟩⟩ t7 :: vs).toArray ep11) (mI 0 rfl), rfl, _, rfl⟩ ?_
  have B12 := B11.alloc (liO PL 0) s11.toks rfl
  generalize s11.heap.objs.size = it at B12 ⊢
  refine a_nil ?_
  refine hq2 _ _ _ _ _ _ (by walk_at "sz") B12 ?_
  intro q2 s13 B13 hq2
  refine b_int B13 ?_
  intro t14 s14 B14
  refine b_mul2 (k := 0) (v := .ref it) (B14.own (q2, lstO #[.ref it] 0) (mI 0 rfl)) ?_
  have B15 := B14.alloc (lstO #[.ref it, .ref it] 0) s14.toks rfl
  generalize s14.heap.objs.size = q3 at B15 ⊢
  refine star_lst (B15.own (q3, lstO #[.ref it, .ref it] 0) (mI 0 rfl)) (by rw [sizeLine_val]; show 2 ≤ 16777216; decide) ?_
  intro h16 k16
  have B16 := B15.kept (h' := h16) (t := s14.toks) k16 hzL
  refine call_zip_S (l := PL) (k := 0) ⟨_, B16.own (it, liO PL 0) (mI 2 rfl), rfl, rfl⟩ ?_
  have B17 := ((B16.alloc (tupO [.ref it, .ref it]) s14.toks rfl).alloc (tupO [.none, .none]) s14.toks rfl).alloc (zipO h16.objs.size (h16.objs.size + 1) .none) s14.toks rfl
  simp only [Heap.size_push] at B17
  dsimp only [Shared.heap] at B17 ⊢
  clear B11 B12 B13 B14 B15 B16
  refine wpAny_pyIter_zip (B17.own (h16.objs.size + 1 + 1, zipO h16.objs.size (h16.objs.size + 1) .none) (mI 0 rfl)) ?_
  have hpl : (⟨⟨[]⟩⟩ :: pieces ws : List Str).length = 2 * ws.length := by rw [List.length_cons]; exact pieces_length ws hne
  have hvl : (.str ⟨⟨[]⟩⟩ t7 :: vs : List Value).toArray.size = 2 * ws.length := by
    have := strsAre_length hvs
    simp only [List.size_toArray, List.length_cons] at hpl ⊢
    lia
  have hall : StrsAre (.str ⟨⟨[]⟩⟩ t7 :: vs) (⟨⟨[]⟩⟩ :: pieces ws) := .cons _ _ hvs
  have B18 : Bod c (Hid (vfMu c.w.params x dx ac ad ln od #[] epa t1 t0 #[] epl) s) L [(n_parts, .ref PL), (n_splitchars, .str sep ts), (n_string, .str text tt), (n_fws, .str ⟨⟨[]⟩⟩ tf), (n_self, .ref x)]
      ((vfMu c.w.params x dx ac ad ln od #[] epa t1 t0 #[] epl ++ []) ++ zmu (h16.objs.size + 1 + 1) h16.objs.size (h16.objs.size + 1) it PL (liO PL 0) .none .none (.str ⟨⟨[]⟩⟩ t7 :: vs).toArray ep11) _ := B17.pick0 [7, 8, 9, 10, 11, 0, 1, 5, 2, 6]
  clear B17
  have hlenP := pairsOf_length ws
  refine zipS_loop (fun j m mu => m.lookup n_self = some (.ref x) ∧ ∃ items epa' t0' lines epl' nest, mu = vfMu c.w.params x dx ac ad ln od items epa' t1 t0' lines epl' ++ nest ∧ StrsAre lines.toList (layS W ((pairsOf ws).take j)).1 ∧ PartsIn nest items (layS W ((pairsOf ws).take j)).2 ∧ ∀ p ∈ nest, s.heap.objs.size ≤ p.1)
    (.str ⟨⟨[]⟩⟩ t7 :: vs).toArray ws.length hvl R'.handled (envF_locals _ _ _) (by kernel_rfl) (by kernel_rfl) (by kernel_rfl) hzL ?_ ?_ rfl rfl ⟨rfl, #[], epa, t0, #[], epl, [], rfl, .nil, ⟨rfl, fun j p h => by simp [layS] at h⟩, fun _ h => nomatch h⟩ B18
  · intro j m mu s19 v1 v2 zm hj hx1 hx2 hJ B19
    refine hG fun zP zK => ?_
    obtain ⟨hself, items, epa', t0', lines, epl', nest, rfl, hls, hps, hnn⟩ := hJ
    obtain ⟨w, hwj⟩ : ∃ w, ws[j]? = some w := ⟨ws[j], List.getElem?_eq_getElem hj⟩
    obtain ⟨g1, g2⟩ := pieces_get ws j w hwj
    obtain ⟨⟨pf, pg⟩, hpj⟩ : ∃ p, (pairsOf ws)[j]? = some p := ⟨(pairsOf ws)[j]'(by lia), List.getElem?_eq_getElem (by lia)⟩
    refine zK ?_
    rw [hpj] at g1 g2
    refine hG fun zP zK => ?_
    obtain ⟨tu1, e1⟩ := strsAre_get hall _ _ g1
    obtain ⟨tu2, e2⟩ := strsAre_get hall _ _ g2
    refine zK ?_
    have ex1 : v1 = .str pf tu1 := by rw [List.getElem?_toArray, e1] at hx1; exact (Option.some.inj hx1).symm
    have ex2 : v2 = .str pg tu2 := by rw [List.getElem?_toArray, e2] at hx2; exact (Option.some.inj hx2).symm
    subst ex1 ex2
    have htk : (pairsOf ws).take (j + 1) = (pairsOf ws).take j ++ [(pf, pg)] := by rw [List.take_add_one, hpj]; rfl
    refine hG fun zP zK => ?_
    obtain ⟨l1, l2, l3⟩ := layS_len W _ ((pairsOf ws).take j) rfl
    refine zK ?_
    have ltk : ((pairsOf ws).take j).length ≤ 60 := by rw [List.length_take]; lia
    have hpz : ∀ q ∈ pairsOf ws, q.1.length ≤ 1000 ∧ q.2.length ≤ 1000 := by
      intro q hq
      rw [hws] at hq hz
      rcases List.mem_cons.mp hq with rfl | hq
      · exact ⟨Nat.zero_le _, hz _ (List.mem_cons_self ..)⟩
      · refine hG fun zP zK => ?_
        obtain ⟨v, hv, rfl⟩ := List.mem_map.mp hq
        refine zK ?_
        exact ⟨by show 1 ≤ 1000; lia, hz _ (List.mem_cons_of_mem _ hv)⟩
    have hz2 : ∀ q ∈ (layS W ((pairsOf ws).take j)).2 ++ [(pf, pg)], q.1.length ≤ 10000 ∧ q.2.length ≤ 10000 := by
      intro q hq
      have : q ∈ pairsOf ws := by
        rcases List.mem_append.mp hq with hq | hq
        · exact List.mem_of_mem_take (l3 q hq)
        · rw [List.mem_singleton.mp hq]; exact List.mem_of_getElem? hpj
      have := hpz q this
      lia
    have hsz19 : s.heap.objs.size ≤ s19.heap.objs.size := by have := B19.size; rwa [hideAll_size] at this
    refine sK ?_
    refine wpAny_Expr ?_
    refine c_attr ?_
    have lk : ∀ (y : Str) v, m.lookup y = some v → (y == n_part) = false → (y == n_fws) = false → List.lookup y ((n_part, Value.str pg tu2) :: (n_fws, Value.str pf tu1) :: m) = some v := fun y v e e1 e2 => look_there e1 (look_there e2 e)
    refine b_name B19 (envF_locals _ _ _) (lk _ _ hself (by kernel_rfl) (by kernel_rfl)) (by kernel_rfl) (by kernel_rfl) (by kernel_rfl) ?_
    refine b_method (f := .ref 134) (C := 137) (dx := dx) (od := od) (ox := instObj 137 dx) B19 (mI 3 rfl) (mI 4 rfl) rfl rfl rfl (ff_ga _) can_o (ff_gk _) (ff_append_chunk_u _) (ft_append_chunk_u _) tf_f V.sh4 ?_
    refine cw_def (fo_134 _) (fd_134 _) ?_
    refine a_cons ?_
    refine b_name B19 (envF_locals _ _ _) (look_there (by kernel_rfl) look_here) (by kernel_rfl) (by kernel_rfl) (by kernel_rfl) ?_
    refine a_cons ?_
    refine b_name B19 (envF_locals _ _ _) look_here (by kernel_rfl) (by kernel_rfl) (by kernel_rfl) ?_
    refine a_nil ?_
    refine ⟨B19.inv, ?_⟩
    have B19 := B19
    rw [List.append_assoc] at B19
    have hP := hps.at B19 (fun p hp => List.mem_append_left _ hp)
    refine chunk_spec B19.inv R' (Bod.has B19) V hP hz2 (by rw [List.length_append]; simp only [List.length_cons, List.length_nil]; lia) (by have := strsAre_length hls; rw [Array.length_toList] at this; rw [this, sizeLine_val]; lia) ?_ ?_
    · intro hc p epa2 s20 M
      have B20 := B19.turned M
      dsimp only [seqK]
      refine wpAny_execs_nil ?_
      refine ⟨_, _, ⟨lk _ _ hself (by kernel_rfl) (by kernel_rfl), items.push (.ref p), epa2, t0', lines, epl', (p, tupO [.str pf tu1, .str pg tu2]) :: nest, rfl, ?_, ?_, ?_⟩, by rw [List.append_assoc]; exact B20⟩
      · rw [htk, layS_snoc]; unfold chunkS; rw [hc]; exact hls
      · rw [htk, layS_snoc]; unfold chunkS; rw [hc]
        exact (hps.mono fun q hq => List.mem_cons_of_mem _ hq).snoc (List.mem_cons_self ..)
      · intro q hq
        rcases List.mem_cons.mp hq with rfl | hq
        · exact Nat.le_trans hsz19 (M.new _ (List.mem_singleton.mpr rfl)).2
        · exact hnn q hq
    · intro i hc p epa2 t02 epl2 tl s20 M
      have B20 := B19.turned M
      dsimp only [seqK]
      refine wpAny_execs_nil ?_
      refine ⟨_, _, ⟨lk _ _ hself (by kernel_rfl) (by kernel_rfl), ((items.push (.ref p)).toList.drop i).toArray, epa2, t02, lines.push (.str (lineOf (((layS W ((pairsOf ws).take j)).2 ++ [(pf, pg)]).take i)) tl), epl2, (p, tupO [.str pf tu1, .str pg tu2]) :: nest, rfl, ?_, ?_, ?_⟩, by rw [List.append_assoc]; exact B20⟩
      · rw [htk, layS_snoc]; unfold chunkS; rw [hc, Array.toList_push]; exact strsAre_append hls (.cons _ _ .nil)
      · rw [htk, layS_snoc]; unfold chunkS; rw [hc]
        exact ((hps.mono fun q hq => List.mem_cons_of_mem _ hq).snoc (List.mem_cons_self ..)).drop i
      · intro q hq
        rcases List.mem_cons.mp hq with rfl | hq
        · exact Nat.le_trans hsz19 (M.new _ (List.mem_singleton.mpr rfl)).2
        · exact hnn q hq
  · intro m mu s19 hJ B19
    refine hG fun zP zK => ?_
    obtain ⟨hself, items, epa', t0', lines, epl', nest, rfl, hls, hps, hnn⟩ := hJ
    refine zK ?_
    refine wpAny_execs_nil ?_
    dsimp only [seqK]
    refine wpAny_execs_nil ?_
    rw [← hlenP, List.take_length] at hls hps
    refine h items epa' t0' lines epl' nest s19 (Bod.mev (rest := []) (by rw [List.append_nil]; exact B19) rfl hnn) hls hps
end Mine
end
section
namespace Mine
open PySem PySem.W PySem.W.X PyProof.Rows PySem.Calls

/-- the heap of a caller, the tables hidden -/
noncomputable abbrev Sees (s : Shared) : Heap := hideAll s.heap (tabs ++ [])

/-- a list comprehension over a plain list -/
inductive CmpI (c : Cx) (s₁ : Shared) (C l : Addr) (items : Array Value) (F : Nat → Value → List (Addr × Obj) → Prop) (n : Nat) (s₂ : Shared) : Prop
  | mk (j : Nat) (oi : Obj) (ys : Array Value) (ep : Nat) (nest : List (Addr × Obj)) (m : List (Str × Value)) (h1 : n = items.size - j) (h2 : j ≤ items.size) (h3 : oi.cls = .type "list_iterator") (h4 : oi.data = .fields #[.ref l, .int (j : Nat) 0]) (h5 : ys.size = j) (h6 : (∀ i v, ys[i]? = some v → ∃ nw, F i v nw ∧ ∀ p ∈ nw, p ∈ nest)) (h7 : (∀ p ∈ nest, s₁.heap.objs.size ≤ p.1)) (h8 : Bod c (Sees s₁) C m ((s₁.heap.objs.size, oi) :: (s₁.heap.objs.size + 1, lstO ys ep) :: nest) s₂) : CmpI c s₁ C l items F n s₂
theorem e_comp {c : Cx} {A : Around} {E : Value → Shared → Prop} {s : Shared} {env : Env} {elt iter : Expr} {x : Str} {px pos : Pos} {scope : Scope} {Q : Value → Shared → Prop} (F : Nat → Value → List (Addr × Obj) → Prop)
    (hh : A.handled = none) (hkind : scope.kind = .function) (hx : scope.names.lookup x = some .local)
    (hfree : ∀ y ∈ scope.names, y.2 ≠ .free) (hnames : ∀ y ∈ scope.names, y.2 = .local → scope.names.lookup y.1 = some .local) (hcell : ∀ y ∈ scope.names, y.2 ≠ .cell)
    (h : ∀ (K : Value → Shared → Prop) (E' : Value → Shared → Prop), (∀ l items o s₁, SInv c s₁ → s₁.heap.get? l = some o → o.cls = .type "list" → (∃ ep, o.data = .seq items ep) → 270 ≤ l → items.size ≤ 1000 → (∀ j v C m mu s₂ E', items[j]? = some v → s₁.heap.objs.size ≤ C → Bod c (Sees s₁) C ((x, v) :: m) mu s₂ →
        wpAny c.M A (eval elt (compEnv scope C env)) (fun y s₃ => ∃ nw, F j y nw ∧ (∀ p ∈ nw, s₁.heap.objs.size ≤ p.1) ∧ Bod c (Sees s₁) C ((x, v) :: m) (nw ++ mu) s₃) E' s₂) → (∀ D ys ep nest s', MEv c [] [] ((D, lstO ys ep) :: nest) s₁ s' → ys.size = items.size → (∀ j v, ys[j]? = some v → ∃ nw, F j v nw ∧ ∀ p ∈ nw, p ∈ nest) → Q (.ref D) s') → K (.ref l) s₁) → wpAny c.M A (eval iter env) K E' s)
    (hs : ∀ x, foldedSetIterable iter env x = pure x := by intro _; rfl) :
    wpAny c.M A (eval (.ListComp elt [⟨.Name x px, iter, [], 0⟩] scope pos) env) Q E s := by
  refine wpAny_ListComp hfree hkind hnames (h _ _ fun l items o s₁ I ho hoc hod' hlo hsz helt hQ => ?_) hs
  obtain ⟨epo, hod⟩ := hod'
  refine wpAny_pyIter_list ⟨o, ho, hoc, epo, hod⟩ ?_
  have hlt : l < s₁.heap.objs.size := Heap.lt_size ho
  refine wpAny_newObj_type ?_
  refine wpAny_newFunctionEnv hcell (by intro y hy; simp at hy) (fun h₁ hns₁ hsb₁ => ?_) hkind
  dsimp only at hns₁ hsb₁ ⊢
  have z1 : (s₁.heap.push (liO l 0)).objs.size = s₁.heap.objs.size + 1 := Heap.size_push ..
  have z2 : ((s₁.heap.push (liO l 0)).push (lstO #[] 0)).objs.size = s₁.heap.objs.size + 2 := by rw [Heap.size_push, z1]
  change h₁.Ns ((s₁.heap.push (liO l 0)).push (lstO #[] 0)).objs.size _ at hns₁
  change Heap.SameBut ((s₁.heap.push (liO l 0)).push (lstO #[] 0)).objs.size (((s₁.heap.push (liO l 0)).push (lstO #[] 0)).push _) h₁ at hsb₁
  rw [z2] at hns₁ hsb₁
  have up : ∀ b o, b ≠ s₁.heap.objs.size + 2 → ((s₁.heap.push (liO l 0)).push (lstO #[] 0)).get? b = some o → h₁.get? b = some o := fun b o hb e => hsb₁.extBut b o hb (Heap.get?_push_of_some _ e)
  have k1 : Kept s₁.heap h₁ := fun b o e => up b o (fun q => absurd (Heap.lt_size e) (by rw [q]; exact Nat.not_lt.mpr (Nat.le_add_right _ 2))) (Heap.get?_push_of_some _ (Heap.get?_push_of_some _ e))
  have hz1 : s₁.heap.objs.size ≤ h₁.objs.size := Nat.le_trans (Nat.le_add_right _ 2) (Nat.le_of_lt hns₁.lt)
  have gI : h₁.get? s₁.heap.objs.size = some (liO l 0) := up _ _ (by lia) (Heap.get?_push_of_some _ (Heap.get?_push_size _ rfl))
  have gD : h₁.get? (s₁.heap.objs.size + 1) = some (lstO #[] 0) := up _ _ (by lia) (by rw [← z1]; exact Heap.get?_push_size _ rfl)
  have fresh : ∀ a, s₁.heap.objs.size ≤ a → (Sees s₁).get? a = none := fun a ha => by
    cases e : (Sees s₁).get? a with
    | none => rfl
    | some o' => exact absurd (Heap.lt_size (of_hideAll _ e)) (Nat.not_lt.mpr ha)
  have B0 : Bod c (Sees s₁) (s₁.heap.objs.size + 2) [] [(s₁.heap.objs.size, liO l 0), (s₁.heap.objs.size + 1, lstO #[] 0)] { s₁ with heap := h₁, toks := s₁.toks + ([] : List (Str × Value)).length } := by
    have hI := I.size
    refine ⟨I.keeps k1 hz1, hns₁, fun b o e => k1 b o (of_hideAll _ e), hide_tabs, fresh _ (Nat.le_add_right _ 2), ?_, ?_, ?_, Nat.le_trans hI (Nat.le_add_right _ 2), ?_, by rw [hideAll_size]; exact hz1⟩
    · intro p hp
      simp only [List.mem_cons, List.not_mem_nil, or_false] at hp
      rcases hp with rfl | rfl
      · exact fresh _ (Nat.le_refl _)
      · exact fresh _ (Nat.le_succ _)
    · intro p hp
      simp only [List.mem_cons, List.not_mem_nil, or_false] at hp
      rcases hp with rfl | rfl
      · exact gI
      · exact gD
    · simp
    · intro p hp
      simp only [List.mem_cons, List.not_mem_nil, or_false] at hp
      rcases hp with rfl | rfl
      · exact hI
      · exact Nat.le_succ_of_le hI
  have hzL : (Sees s₁).objs.size ≤ s₁.heap.objs.size + 2 := by rw [hideAll_size]; exact Nat.le_add_right _ 2
  have hlst : ∀ (L : Addr) m mu s₂, Bod c (Sees s₁) L m mu s₂ → SeqAt s₂.heap l items := fun L m mu s₂ B => ⟨o, B.keep _ _ (hideAll_get _ ho (by rw [List.append_nil]; exact Bod.notTab l hlo)), epo, hod⟩
  generalize hC : s₁.heap.objs.size + 2 = C at *
  have hCle : s₁.heap.objs.size ≤ C := by rw [← hC]; exact Nat.le_add_right _ 2
  have loop : codeAny c.M A (.compLoop (.ListComp elt [⟨.Name x px, iter, [], 0⟩] scope pos) 0 (.ref s₁.heap.objs.size) (.ref (s₁.heap.objs.size + 1)) (compEnv scope C env))
      (fun r s' => ∃ m, s'.heap.Ns C m ∧ ∀ h', Heap.SameBut C s'.heap h' → match r with | .ok _ => Q (.ref (s₁.heap.objs.size + 1)) { s' with heap := h' } | .error x => wpAny c.M A (passOn "comprehension.variables-let-go" x (compEnv scope C env)) Q E { s' with heap := h' }) { s₁ with heap := h₁, toks := s₁.toks + ([] : List (Str × Value)).length } := by
    refine codeAny_compLoop_list (CmpI c s₁ C l items F) ?_ items.size
      ⟨0, liO l 0, #[], 0, [], [], rfl, Nat.zero_le _, rfl, rfl, rfl, fun i v e => by simp at e, fun p hp => (nomatch hp), B0⟩
    intro n s₂ zz1
    refine hG fun zP zK => ?_
    obtain ⟨j, oi, ys, ep, nest, m, rfl, hj, hc, hd, hys, hF, hnst, B⟩ := zz1
    refine zK ?_
    have hit : s₂.heap.IsListIter s₁.heap.objs.size l j := ⟨oi, B.own (s₁.heap.objs.size, oi) (mI 0 rfl), hc, hd⟩
    by_cases hjl : j < items.size
    · refine next_item hit (hlst _ _ _ _ B) (Array.getElem?_eq_getElem hjl) ?_
      intro h2 hit2 sb2
      refine hG fun zP zK => ?_
      obtain ⟨o2, e2, c2, d2⟩ := hit2
      refine zK ?_
      have B1 := B.turn1 (pre := []) (t := s₂.toks) sb2 e2
      dsimp only
      refine wpAny_assign_Name ?_
      refine b_store B1 rfl hkind hx ?_
      intro s3 B3
      refine wpAny_mono (helt j items[j] C m _ s3 _ (Array.getElem?_eq_getElem hjl) hCle B3) (fun y s₄ h₄ => ?_) fun _ _ e => e
      refine hG fun zP zK => ?_
      obtain ⟨nw, hFy, hnw, B4⟩ := h₄
      refine zK ?_
      refine b_append (pre := nw ++ [(s₁.heap.objs.size, o2)]) (post := nest) B4 (by rw [List.append_assoc]; rfl) (by rw [hys, sizeLine_val]; lia) ?_
      intro ep' s5 B5
      have B6 := B5.perm (mu' := (s₁.heap.objs.size, o2) :: (s₁.heap.objs.size + 1, lstO (ys.push y) ep') :: (nw ++ nest)) (by
        rw [List.append_assoc]
        refine (List.perm_append_comm).trans ?_
        simp only [List.cons_append, List.nil_append]
        refine List.Perm.cons _ (List.Perm.cons _ List.perm_append_comm))
      refine ⟨items.size - (j + 1), by lia, j + 1, o2, ys.push y, ep', nw ++ nest, _, rfl, hjl, c2, d2, by rw [Array.size_push, hys], ?_, ?_, B6⟩
      · intro i v hv
        by_cases hi : i < ys.size
        · rw [Array.getElem?_push_lt hi] at hv
          obtain ⟨nw', f1, f2⟩ := hF i v (by rw [Array.getElem?_eq_getElem hi]; exact hv)
          exact ⟨nw', f1, fun p hp => List.mem_append_right _ (f2 p hp)⟩
        · have hi2 : i = ys.size := by
            have := (Array.getElem?_eq_some_iff.mp hv).1
            rw [Array.size_push] at this; lia
          subst hi2
          simp at hv
          subst hv
          rw [hys]
          exact ⟨nw, hFy, fun p hp => List.mem_append_left _ hp⟩
      · intro p hp
        rcases List.mem_append.mp hp with hp | hp
        · exact hnw p hp
        · exact hnst p hp
    · have ej : j = items.size := by lia
      subst ej
      refine next_end hh hit (hlst _ _ _ _ B) (Array.getElem?_eq_none (by lia)) ?_
      intro h2 x2
      have B1 := B.ext1 (t := s₂.toks) x2 hzL
      dsimp only
      refine ⟨_, B1.ns, fun h' sb' => ?_⟩
      have kC : ∀ b o, b ≠ C → h2.get? b = some o → h'.get? b = some o := fun b o hb e => (sb'.2 b hb).trans e
      have hn := B1.nod
      rw [List.nodup_cons] at hn
      refine hQ _ ys ep nest _ ⟨B1.inv.same B1.lowL sb', fun b o e hb _ => ?_, ?_, rfl, fun p hp => (nomatch hp), fun p hp => ⟨?_, ?_⟩, hn.2⟩ hys hF
      · have hbl := Heap.lt_size e
        refine kC b o (fun q => absurd hbl (by rw [q]; exact Nat.not_lt.mpr hCle)) (B1.keep b o (hideAll_get _ e (by rw [List.append_nil]; exact hb)))
      · show s₁.heap.objs.size ≤ h'.objs.size
        have hsz := B1.size
        rw [hideAll_size] at hsz
        rw [sb'.1]; exact hsz
      · refine kC _ _ (fun q => hn.1 (q ▸ List.mem_map_of_mem hp)) (B1.own p hp)
      · rcases List.mem_cons.mp hp with rfl | hp
        · exact Nat.le_succ _
        · exact hnst p hp
  have loop' : ∀ (D C' : Addr), D = s₁.heap.objs.size + 1 → C' = C → ∀ cenv : Env, cenv = compEnv scope C env → codeAny c.M A (.compLoop (.ListComp elt [⟨.Name x px, iter, [], 0⟩] scope pos) 0 (.ref s₁.heap.objs.size) (.ref D) cenv)
      (fun r s' => ∃ m, s'.heap.Ns C' m ∧ ∀ h', Heap.SameBut C' s'.heap h' → match r with | .ok _ => Q (.ref D) { s' with heap := h' } | .error x => wpAny c.M A (passOn "comprehension.variables-let-go" x cenv) Q E { s' with heap := h' }) { s₁ with heap := h₁, toks := s₁.toks + ([] : List (Str × Value)).length } := by
    rintro D C' rfl rfl cenv rfl; exact loop
  refine codeAny_compStart_list ?_ ?_
  · exact loop' _ _ z1 z2 _ (congrArg (fun a => compEnv scope a env) z2)
  · refine wpAny_pyIter_listiter (i := 0) (l := l) ⟨_, gI, rfl, rfl⟩ ?_
    exact loop' _ _ z1 z2 _ (congrArg (fun a => compEnv scope a env) z2)
end Mine
end
section
namespace Mine
open PySem PySem.W PySem.W.X PyProof.Rows PySem.Calls

noncomputable def blankOf (v : Str) : Str := if v = t_unknown then t_empty else v

theorem unknown_spec {c : Cx} {k : Nat} {A : Around} {s : Shared} {v : Str} {t : Tok} {Q : Value → Shared → Prop} {E : Value → Shared → Prop} (I : SInv c s) (R : Room (k + 1) A)
    (h : ∀ t' s', Ev c s s' → Q (.str (blankOf v) t') s') : wpAny c.M A (call (.ref 59) [.str v t]) Q E s := by
  refine enterL [(n_val, .str v t)] [] I R (by walk_at "fn") ?_
  intro L s1 eL B kp R'
  refine sK ?_
  refine wpAny_Return_some ?_
  refine wpAny_IfExp ?_
  refine wpAny_isTrue_Compare1 ?_
  refine b_name B (envF_locals _ _ _) (by rfl) (by kernel_rfl) (by kernel_rfl) (by kernel_rfl) ?_
  refine b_str B ?_
  intro t2 s2 B2
  refine b_eq_str ?_
  refine b_bool ?_
  by_cases e : v = t_unknown
  · rw [decide_eq_true e]
    refine (if_pos rfl).mpr ?_
    refine b_str B2 ?_
    intro t3 s3 B3
    have q := h t3 _ (B3.ev rfl)
    rw [show blankOf v = t_empty from if_pos e] at q
    exact q
  · rw [decide_eq_false e]
    refine (if_neg Bool.false_ne_true).mpr ?_
    refine b_name B2 (envF_locals _ _ _) (by rfl) (by kernel_rfl) (by kernel_rfl) (by kernel_rfl) ?_
    have q := h t _ (B2.ev rfl)
    rw [show blankOf v = v from if_neg e] at q
    exact q

structure Mach where
  sys : Str
  num : Option Nat
  tail : Str
  ver : Str

noncomputable def numV : Option Nat → Tok → Value
  | none, _ => .none
  | some n, t => .int n t
noncomputable def numS (n : Nat) : Str := Str.ofString (toString (n : Int))
noncomputable def relOf (m : Mach) : Str := match m.num with
  | none => m.tail
  | some n => numS n ++ m.tail
noncomputable def plainF (m : Mach) : List Str := [m.sys, relOf m, m.ver]

theorem log2_small {n : Nat} (h : n < 2 ^ 100) : n.log2 < 1920 := by
  by_cases h0 : n = 0
  · subst h0; decide
  · have := (Nat.log2_lt h0).mpr h
    lia

theorem plain_spec {c : Cx} {k : Nat} {A : Around} {s : Shared} {m : Mach} {t1 t2 t3 t4 : Tok} {Q : Value → Shared → Prop} {E : Value → Shared → Prop} (I : SInv c s) (R : Room (k + 1) A)
    (hn : ∀ n, m.num = some n → n ≤ 100000 ∧ (numS n).length ≤ 100) (ht : m.tail.length ≤ 1000)
    (h : ∀ a u1 u2 u3 s', MEv c [] [] [(a, lstO #[.str m.sys u1, .str (relOf m) u2, .str m.ver u3] 0)] s s' → Q (.ref a) s') : wpAny c.M A (call (.ref 239) [.str m.sys t1, numV m.num t2, .str m.tail t3, .str m.ver t4]) Q E s := by
  refine enterL [(n_version, .str m.ver t4), (n_tail, .str m.tail t3), (n_number, numV m.num t2), (n_system, .str m.sys t1)] [] I R (by walk_at "fn") ?_
  intro L s1 eL B kp R'
  have hs0 : s.heap.objs.size ≤ (hideAll s.heap (tabs ++ [])).objs.size := by rw [hideAll_size]; exact Nat.le_refl _
  refine sK ?_
  refine wpAny_Return_some ?_
  refine e_listQ fun q1 e1 hq1 => ?_
  refine a_cons ?_
  refine b_name B (envF_locals _ _ _) (by rfl) (by kernel_rfl) (by kernel_rfl) (by kernel_rfl) ?_
  refine a_cons ?_
  refine wpAny_IfExp ?_
  refine wpAny_isTrue_Compare1 ?_
  refine b_name B (envF_locals _ _ _) (by rfl) (by kernel_rfl) (by kernel_rfl) (by kernel_rfl) ?_
  refine wpAny_Constant_none ?_
  obtain ⟨sys, num, tail, ver⟩ := m
  cases num with
  | none =>
    refine is_none_none ?_
    refine b_bool ?_
    refine (if_pos rfl).mpr ?_
    refine b_name B (envF_locals _ _ _) (by rfl) (by kernel_rfl) (by kernel_rfl) (by kernel_rfl) ?_
    refine a_cons ?_
    refine b_name B (envF_locals _ _ _) (by rfl) (by kernel_rfl) (by kernel_rfl) (by kernel_rfl) ?_
    refine a_nil ?_
    refine hq1 _ _ _ _ _ _ (by walk_at "sz") B ?_
    intro a s2 B2 ha
    exact h a _ _ _ _ (Bod.mev (rest := []) (mu' := []) (mu := []) (nw := [(a, _)]) B2 rfl fun p hp => by rw [List.mem_singleton.mp hp]; exact Nat.le_trans hs0 ha)
  | some n =>
    obtain ⟨hn1, hn2⟩ := hn n rfl
    refine is_int_none ?_
    refine b_bool ?_
    refine (if_neg Bool.false_ne_true).mpr ?_
    refine wpAny_BinOp ?_
    refine c_name ?_
    refine b_glob B (gv_str _) (by kernel_rfl) (by kernel_rfl) (by kernel_rfl) (by kernel_rfl) (by kernel_rfl) ?_
    refine cw_type ?_
    refine a_cons ?_
    refine b_name B (envF_locals _ _ _) (by rfl) (by kernel_rfl) (by kernel_rfl) (by kernel_rfl) ?_
    refine a_nil ?_
    refine P.str_of_int ?_ ?_
    · show n.log2 < 1920
      exact log2_small (Nat.lt_of_le_of_lt hn1 (by decide))
    have B2 := B.toks (s1.toks + 1)
    refine b_name B2 (envF_locals _ _ _) (by rfl) (by kernel_rfl) (by kernel_rfl) (by kernel_rfl) ?_
    refine b_add_str B2 ?_ ?_
    · have e1 : (numS n).length ≤ 100 := hn2
      show (numS n).length + tail.length ≤ _
      rw [sizeLine_val]
      have : tail.length ≤ 1000 := ht
      lia
    intro t5 s5 B5
    refine a_cons ?_
    refine b_name B5 (envF_locals _ _ _) (by rfl) (by kernel_rfl) (by kernel_rfl) (by kernel_rfl) ?_
    refine a_nil ?_
    refine hq1 _ _ _ _ _ _ (by walk_at "sz") B5 ?_
    intro a s2 B6 ha
    exact h a _ _ _ _ (Bod.mev (rest := []) (mu' := []) (mu := []) (nw := [(a, _)]) B6 rfl fun p hp => by rw [List.mem_singleton.mp hp]; exact Nat.le_trans hs0 ha)
end Mine
end
section
namespace Mine
open PySem PySem.W PySem.W.X PyProof.Rows PySem.Calls

noncomputable def numI (z : Int) : Str := Str.ofString (toString z)
/-- the first sign of the number is one of 56789 -/
noncomputable def bigD (n : Nat) : Bool := Txt.contains t_digs ⟨#[(numS n).cps.getD 0 0]⟩
noncomputable def winOf (x : Str) : Str := if x = t_win32 ∨ x = t_win16 then t_Windows else x
noncomputable def aliasF (m : Mach) : List Str :=
  if m.sys = t_SunOS then
    match m.num with
    | none => [t_Solaris, m.tail, m.ver]
    | some n => if bigD n then [t_Solaris, numI ((n : Int) - 3) ++ m.tail, m.ver] else plainF m
  else plainF { m with sys := winOf m.sys }

theorem numS_ne (n : Nat) : ∃ d r, (numS n).cps.toList = d :: r ∧ 48 ≤ d ∧ d ≤ 57 := by
  have e : (numS n).cps.toList = (Nat.toDigits 10 n).map Char.toNat := KIN.signs_num n
  rw [e]
  cases h : Nat.toDigits 10 n with
  | nil =>
    have h2 := toDigits_len_ge 10 n
    rw [h] at h2
    exact absurd h2 (by decide)
  | cons a r =>
    have r' := digit_range (Nat.isDigit_of_mem_toDigits (b := 10) (n := n) (c := a) (by decide) (by decide) (by rw [h]; exact List.mem_cons_self ..))
    exact ⟨a.toNat, r.map Char.toNat, rfl, r'.1, r'.2⟩

theorem in_wins {c : Cx} {A : Around} {E : Value → Shared → Prop} {s : Shared} {x : Str} {t u1 u2 : Tok} {T : Addr} {Q : Value → Shared → Prop} (hT : s.heap.get? T = some (tupO [.str t_win32 u1, .str t_win16 u2]))
    (h : Q (.bool (decide (x = t_win32 ∨ x = t_win16))) s) : wpAny c.M A (compareOp .In (.str x t) (.ref T)) Q E s := by
  refine PySem.SeqAt.in_tupleAt (items := #[.str t_win32 u1, .str t_win16 u2]) (fun y => match y with | .str a _ => a == x | _ => false) ⟨_, hT, rfl, _, rfl⟩ ?_ ?_
  · intro y hy
    simp at hy
    rcases hy with rfl | rfl
    · exact PySem.SeqAt.EqAt.str_str _ _ _ _
    · exact PySem.SeqAt.EqAt.str_str _ _ _ _
  · have : (#[.str t_win32 u1, .str t_win16 u2] : Array Value).any (fun y => match y with | .str a _ => a == x | _ => false) = decide (x = t_win32 ∨ x = t_win16) := by
      rw [show (#[.str t_win32 u1, .str t_win16 u2] : Array Value) = [.str t_win32 u1, .str t_win16 u2].toArray from rfl, List.any_toArray]
      simp only [List.any_cons, List.any_nil, Bool.or_false]
      rw [Bool.decide_or]
      congr 1
      · by_cases h1 : x = t_win32
        · rw [decide_eq_true h1, h1]; simp
        · rw [decide_eq_false h1]; simp; exact fun e => h1 e.symm
      · by_cases h1 : x = t_win16
        · rw [decide_eq_true h1, h1]; simp
        · rw [decide_eq_false h1]; simp; exact fun e => h1 e.symm
    rw [this]; exact h

theorem alias_spec {c : Cx} {k : Nat} {A : Around} {s : Shared} {m : Mach} {t1 t2 t3 t4 : Tok} {Q : Value → Shared → Prop} {E : Value → Shared → Prop} (I : SInv c s) (R : Room (k + 2) A)
    (hn : ∀ n, m.num = some n → n ≤ 100000 ∧ (numS n).length ≤ 100) (ht : m.tail.length ≤ 1000)
    (h : ∀ a v1 v2 v3 s', StrsAre [v1, v2, v3] (aliasF m) → MEv c [] [] [(a, lstO #[v1, v2, v3] 0)] s s' → Q (.ref a) s') : wpAny c.M A (call (.ref 246) [.str m.sys t1, numV m.num t2, .str m.tail t3, .str m.ver t4]) Q E s := by
  refine enterL [(n_version, .str m.ver t4), (n_tail, .str m.tail t3), (n_number, numV m.num t2), (n_system, .str m.sys t1)] [] I R (by walk_at "fn") ?_
  intro L s1 eL B kp R'
  have hs0 : s.heap.objs.size ≤ (hideAll s.heap (tabs ++ [])).objs.size := by rw [hideAll_size]; exact Nat.le_refl _
  refine hG fun zP zK => ?_
  obtain ⟨sys, num, tail, ver⟩ := m
  refine zK ?_
  dsimp only at hn ht h B ⊢
  have rest : ∀ s2, (sys = t_SunOS → ∃ n, num = some n ∧ bigD n = false) → Bod c (hideAll s.heap (tabs ++ [])) L [(n_version, .str ver t4), (n_tail, .str tail t3), (n_number, numV num t2), (n_system, .str sys t1)] [] s2 →
      wpAny c.M (A.deeper (envF c.w.params 246 L)) (execs ((bodyF c.w.params 246).drop 2) (envF c.w.params 246 L)) (fun fl s' => Q (match fl with | .ret v => v | _ => .none) s') (fun _ _ => False) s2 := by
    intro s2 hno B2
    have efin : aliasF ⟨sys, num, tail, ver⟩ = plainF ⟨winOf sys, num, tail, ver⟩ := by
      unfold aliasF
      by_cases hs : sys = t_SunOS
      · obtain ⟨n, rfl, hb⟩ := hno hs
        rw [if_pos hs]
        dsimp only [seqK]
        rw [if_neg (by rw [hb]; exact Bool.false_ne_true)]
        have : winOf sys = sys := by rw [hs]; decide
        rw [this]
      · rw [if_neg hs]
    refine sK ?_
    refine wpAny_Return_some ?_
    refine c_name ?_
    refine b_glob B2 (gv_law_plain_u _) (by kernel_rfl) (by kernel_rfl) (by kernel_rfl) (by kernel_rfl) (by kernel_rfl) ?_
    refine cw_def (fo_239 _) (fd_239 _) ?_
    refine a_cons ?_
    refine wpAny_IfExp ?_
    refine wpAny_isTrue_Compare1 ?_
    refine b_name B2 (envF_locals _ _ _) (by rfl) (by kernel_rfl) (by kernel_rfl) (by kernel_rfl) ?_
    refine e_tupleQ fun q1 e1 hq1 => ?_
    refine a_cons ?_
    refine b_str B2 ?_
    intro u3 s3 B3
    refine a_cons ?_
    refine b_str B3 ?_
    intro u4 s4 B4
    refine a_nil ?_
    refine hq1 _ _ _ _ _ _ (by walk_at "sz") B4 ?_
    intro T s5 B5 hT
    refine in_wins (B5.own (T, _) (List.mem_cons_self ..)) ?_
    refine b_bool ?_
    have fin : ∀ u s6, Bod c (hideAll s.heap (tabs ++ [])) L [(n_version, .str ver t4), (n_tail, .str tail t3), (n_number, numV num t2), (n_system, .str sys t1)] [(T, tupO [.str t_win32 u3, .str t_win16 u4])] s6 →
        wpAny c.M (A.deeper (envF c.w.params 246 L)) (call (.ref 239) [.str (winOf sys) u, numV num t2, .str tail t3, .str ver t4]) (fun v s' => Q v s') (fun _ _ => False) s6 := by
      intro u s6 B6
      refine plain_spec (m := ⟨winOf sys, num, tail, ver⟩) B6.inv R' hn ht ?_
      intro a u1 u2 u3' s7 M
      refine h a (.str (winOf sys) u1) (.str (relOf ⟨winOf sys, num, tail, ver⟩) u2) (.str ver u3') s7 (by rw [efin]; exact .cons _ _ (.cons _ _ (.cons _ _ .nil))) ?_
      have B7 := B6.turned (mu := []) M
      exact Bod.mev (mu := []) (mu' := []) (nw := [(a, _)]) (rest := [(T, _)]) B7 rfl fun p hp => by
        rw [List.mem_singleton.mp hp]
        have h1 := (M.new _ (List.mem_singleton.mpr rfl)).2
        have h2 := B6.size
        exact Nat.le_trans hs0 (Nat.le_trans h2 h1)
    by_cases hw : sys = t_win32 ∨ sys = t_win16
    · rw [decide_eq_true hw]
      refine (if_pos rfl).mpr ?_
      refine b_str B5 ?_
      intro u6 s6 B6
      refine a_cons ?_
      refine b_name B6 (envF_locals _ _ _) (by rfl) (by kernel_rfl) (by kernel_rfl) (by kernel_rfl) ?_
      refine a_cons ?_
      refine b_name B6 (envF_locals _ _ _) (by rfl) (by kernel_rfl) (by kernel_rfl) (by kernel_rfl) ?_
      refine a_cons ?_
      refine b_name B6 (envF_locals _ _ _) (by rfl) (by kernel_rfl) (by kernel_rfl) (by kernel_rfl) ?_
      refine a_nil ?_
      refine ⟨B6.inv, ?_⟩
      have q := fin u6 s6 B6
      rw [show winOf sys = t_Windows from if_pos hw] at q
      exact q
    · rw [decide_eq_false hw]
      refine (if_neg Bool.false_ne_true).mpr ?_
      refine b_name B5 (envF_locals _ _ _) (by rfl) (by kernel_rfl) (by kernel_rfl) (by kernel_rfl) ?_
      refine a_cons ?_
      refine b_name B5 (envF_locals _ _ _) (by rfl) (by kernel_rfl) (by kernel_rfl) (by kernel_rfl) ?_
      refine a_cons ?_
      refine b_name B5 (envF_locals _ _ _) (by rfl) (by kernel_rfl) (by kernel_rfl) (by kernel_rfl) ?_
      refine a_cons ?_
      refine b_name B5 (envF_locals _ _ _) (by rfl) (by kernel_rfl) (by kernel_rfl) (by kernel_rfl) ?_
      refine a_nil ?_
      refine ⟨B5.inv, ?_⟩
      have q := fin t1 s5 B5
      rw [show winOf sys = sys from if_neg hw] at q
      exact q
  have two : ∀ s2, sys = t_SunOS → Bod c (hideAll s.heap (tabs ++ [])) L [(n_version, .str ver t4), (n_tail, .str tail t3), (n_number, numV num t2), (n_system, .str sys t1)] [] s2 → (∃ n, num = some n) →
      wpAny c.M (A.deeper (envF c.w.params 246 L)) (execs ((bodyF c.w.params 246).drop 1) (envF c.w.params 246 L)) (fun fl s' => Q (match fl with | .ret v => v | _ => .none) s') (fun _ _ => False) s2 := by
    rintro s2 hs B2 ⟨n, rfl⟩
    obtain ⟨hn1, hn2⟩ := hn n rfl
    refine sK ?_
    refine wpAny_If ?_
    refine wpAny_isTrue_BoolOp ?_
    refine wpAny_allTrue_And_cons ?_
    refine wpAny_isTrue_Compare1 ?_
    refine b_name B2 (envF_locals _ _ _) (by rfl) (by kernel_rfl) (by kernel_rfl) (by kernel_rfl) ?_
    refine b_str B2 ?_
    intro u3 s3 B3
    refine b_eq_str ?_
    refine b_bool ?_
    rw [show decide (sys = ⟨⟨[83, 117, 110, 79, 83]⟩⟩) = true from decide_eq_true hs]
    refine (if_pos rfl).mpr ?_
    refine wpAny_allTrue_And_cons ?_
    refine wpAny_isTrue_Compare1 ?_
    refine e_sub "str" "str.__getitem__" lk_str ?_
    refine c_name ?_
    refine b_glob B3 (gv_str _) (by kernel_rfl) (by kernel_rfl) (by kernel_rfl) (by kernel_rfl) (by kernel_rfl) ?_
    refine cw_type ?_
    refine a_cons ?_
    refine b_name B3 (envF_locals _ _ _) (by rfl) (by kernel_rfl) (by kernel_rfl) (by kernel_rfl) ?_
    refine a_nil ?_
    refine P.str_of_int (log2_small (Nat.lt_of_le_of_lt hn1 (by decide))) ?_
    have B4 := B3.toks (s3.toks + 1)
    refine b_int B4 ?_
    intro u5 s5 B5
    refine ⟨typeIs_str _ _ _, ?_⟩
    refine hG fun zP zK => ?_
    obtain ⟨d, r, hd, hd1, hd2⟩ := numS_ne n
    refine zK ?_
    have hd0 : (numS n).cps.getD 0 0 = d := by
      rw [Array.getD_eq_getD_getElem?, ← Array.getElem?_toList, hd]; rfl
    have hlen : (numS n).length ≠ 0 := by
      show (numS n).cps.size ≠ 0
      rw [← Array.length_toList, hd]; simp
    refine PyProof.Rows.getItem_str (c := d) (by decide) ?_ ?_
    · show (seqIndex? 0 (numS n).length).bind ((numS n).cps[·]?) = some d
      have e1 : seqIndex? 0 (numS n).length = some 0 := by
        unfold seqIndex?
        simp
        omega
      rw [e1]
      show (numS n).cps[0]? = some d
      rw [← Array.getElem?_toList, hd]; rfl
    have B6 := B5.toks (s5.toks + 1)
    refine b_str B6 ?_
    intro u7 s7 B7
    refine P.in_str ?_
    refine b_bool ?_
    have eb : (!(Builtin.Str.occurrences t_digs ⟨#[d]⟩ 0 t_digs.length 1).isEmpty) = bigD n := by unfold bigD Txt.contains; rw [hd0]
    change ite ((!(Builtin.Str.occurrences t_digs ⟨#[d]⟩ 0 t_digs.length 1).isEmpty) = true) _ _
    rw [eb]
    clear B3 B4 B5 B6
    by_cases hb : bigD n = true
    · rw [hb]
      refine (if_pos rfl).mpr ?_
      refine wpAny_allTrue_And_nil ?_
      refine (if_pos rfl).mpr ?_
      refine sK ?_
      refine wpAny_Return_some ?_
      refine e_listQ fun q2 e2 hq2 => ?_
      refine a_cons ?_
      refine b_str B7 ?_
      intro u8 s8 B8
      refine a_cons ?_
      refine wpAny_BinOp ?_
      refine c_name ?_
      refine b_glob B8 (gv_str _) (by kernel_rfl) (by kernel_rfl) (by kernel_rfl) (by kernel_rfl) (by kernel_rfl) ?_
      refine cw_type ?_
      refine a_cons ?_
      refine wpAny_BinOp ?_
      refine b_name B8 (envF_locals _ _ _) (by rfl) (by kernel_rfl) (by kernel_rfl) (by kernel_rfl) ?_
      refine b_int B8 ?_
      intro u9 s9 B9
      refine PyProof.Rows.sub_int ?_
      have B10 := B9.toks (s9.toks + 1)
      refine a_nil ?_
      refine P.str_of_int (log2_small (Nat.lt_of_le_of_lt (m := 100003) (by omega) (by decide))) ?_
      have B11 := B10.toks (s9.toks + 1 + 1)
      refine b_name B11 (envF_locals _ _ _) (by rfl) (by kernel_rfl) (by kernel_rfl) (by kernel_rfl) ?_
      refine b_add_str B11 ?_ ?_
      · have e1 := len_str_of_int ((n : Int) - 3)
        rw [sizeLine_val]
        show (Str.ofString (toString ((n : Int) - 3))).length + tail.length ≤ _
        omega
      intro u12 s12 B12
      refine a_cons ?_
      refine b_name B12 (envF_locals _ _ _) (by rfl) (by kernel_rfl) (by kernel_rfl) (by kernel_rfl) ?_
      refine a_nil ?_
      refine hq2 _ _ _ _ _ _ (by walk_at "sz") B12 ?_
      intro a s13 B13 ha
      refine h a (.str t_Solaris u8) (.str (numI ((n : Int) - 3) ++ tail) u12) (.str ver t4) _ ?_ (Bod.mev (rest := []) (mu' := []) (mu := []) (nw := [(a, _)]) B13 rfl fun p hp => by rw [List.mem_singleton.mp hp]; exact Nat.le_trans hs0 ha)
      have : aliasF ⟨sys, some n, tail, ver⟩ = [t_Solaris, numI ((n : Int) - 3) ++ tail, ver] := by
        unfold aliasF
        rw [if_pos hs]
        dsimp only [seqK]
        rw [if_pos hb]
      rw [this]
      exact .cons _ _ (.cons _ _ (.cons _ _ .nil))
    · have hb : bigD n = false := by simpa using hb
      rw [hb]
      refine (if_neg Bool.false_ne_true).mpr ?_
      refine (if_neg Bool.false_ne_true).mpr ?_
      refine wpAny_execs_nil ?_
      exact rest s7 (fun _ => ⟨n, rfl, hb⟩) B7
  refine sK ?_
  refine wpAny_If ?_
  refine wpAny_isTrue_BoolOp ?_
  refine wpAny_allTrue_And_cons ?_
  refine wpAny_isTrue_Compare1 ?_
  refine b_name B (envF_locals _ _ _) (by rfl) (by kernel_rfl) (by kernel_rfl) (by kernel_rfl) ?_
  refine b_str B ?_
  intro u3 s3 B3
  refine b_eq_str ?_
  refine b_bool ?_
  by_cases hs : sys = t_SunOS
  · rw [show decide (sys = ⟨⟨[83, 117, 110, 79, 83]⟩⟩) = true from decide_eq_true hs]
    refine (if_pos rfl).mpr ?_
    refine wpAny_allTrue_And_cons ?_
    refine wpAny_isTrue_Compare1 ?_
    refine b_name B3 (envF_locals _ _ _) (by rfl) (by kernel_rfl) (by kernel_rfl) (by kernel_rfl) ?_
    refine wpAny_Constant_none ?_
    cases num with
    | none =>
      refine is_none_none ?_
      refine b_bool ?_
      refine (if_pos rfl).mpr ?_
      refine wpAny_allTrue_And_nil ?_
      refine (if_pos rfl).mpr ?_
      refine sK ?_
      refine wpAny_Return_some ?_
      refine e_listQ fun q3 e3 hq3 => ?_
      refine a_cons ?_
      refine b_str B3 ?_
      intro u8 s8 B8
      refine a_cons ?_
      refine b_name B8 (envF_locals _ _ _) (by rfl) (by kernel_rfl) (by kernel_rfl) (by kernel_rfl) ?_
      refine a_cons ?_
      refine b_name B8 (envF_locals _ _ _) (by rfl) (by kernel_rfl) (by kernel_rfl) (by kernel_rfl) ?_
      refine a_nil ?_
      refine hq3 _ _ _ _ _ _ (by walk_at "sz") B8 ?_
      intro a s13 B13 ha
      refine h a (.str t_Solaris u8) (.str tail t3) (.str ver t4) _ ?_ (Bod.mev (rest := []) (mu' := []) (mu := []) (nw := [(a, _)]) B13 rfl fun p hp => by rw [List.mem_singleton.mp hp]; exact Nat.le_trans hs0 ha)
      have : aliasF ⟨sys, none, tail, ver⟩ = [t_Solaris, tail, ver] := by
        unfold aliasF
        rw [if_pos hs]
      rw [this]
      exact .cons _ _ (.cons _ _ (.cons _ _ .nil))
    | some n =>
      refine is_int_none ?_
      refine b_bool ?_
      refine (if_neg Bool.false_ne_true).mpr ?_
      refine (if_neg Bool.false_ne_true).mpr ?_
      refine wpAny_execs_nil ?_
      exact two s3 hs B3 ⟨n, rfl⟩
  · rw [show decide (sys = ⟨⟨[83, 117, 110, 79, 83]⟩⟩) = false from decide_eq_false hs]
    refine (if_neg Bool.false_ne_true).mpr ?_
    refine (if_neg Bool.false_ne_true).mpr ?_
    refine wpAny_execs_nil ?_
    dsimp only [seqK]
    refine sK ?_
    refine wpAny_If ?_
    refine wpAny_isTrue_BoolOp ?_
    refine wpAny_allTrue_And_cons ?_
    refine wpAny_isTrue_Compare1 ?_
    refine b_name B3 (envF_locals _ _ _) (by rfl) (by kernel_rfl) (by kernel_rfl) (by kernel_rfl) ?_
    refine b_str B3 ?_
    intro u4 s4 B4
    refine b_eq_str ?_
    refine b_bool ?_
    rw [show decide (sys = ⟨⟨[83, 117, 110, 79, 83]⟩⟩) = false from decide_eq_false hs]
    refine (if_neg Bool.false_ne_true).mpr ?_
    refine (if_neg Bool.false_ne_true).mpr ?_
    refine wpAny_execs_nil ?_
    exact rest s4 (fun e => absurd e hs) B4
end Mine
end
section
namespace Mine
open PySem PySem.W PySem.W.X PyProof.Rows PySem.Calls

theorem strsAre_of : ∀ {vs : List Value} {zs : List Str}, vs.length = zs.length → (∀ (j : Nat) (v : Value), vs[j]? = some v → ∃ z t, zs[j]? = some z ∧ v = .str z t) → StrsAre vs zs
  | [], [], _, _ => .nil
  | [], z :: zs, h, _ => by cases h
  | v :: vs, [], h, _ => by cases h
  | v :: vs, z :: zs, h, e => by
    obtain ⟨z', t, h1, rfl⟩ := e 0 v rfl
    have : z = z' := by simpa using h1
    subst this
    exact .cons _ _ (strsAre_of (by simpa using h) fun j v hv => by simpa using e (j + 1) v (by simpa using hv))
theorem strsAre_back : ∀ {vs : List Value} {ys : List Str}, StrsAre vs ys → ∀ (j : Nat) (v : Value), vs[j]? = some v → ∃ y t, ys[j]? = some y ∧ v = .str y t
  | _, _, .nil, j, y, h => by simp at h
  | _, _, .cons z t r, 0, y, h => by simp at h; subst h; exact ⟨z, t, rfl, rfl⟩
  | _, _, .cons z t r, j + 1, y, h => by simpa using strsAre_back r j y (by simpa using h)

theorem blank_yes {y : Str} (e : y = t_unknown) : blankOf y = t_empty := by unfold blankOf; rw [if_pos e]
theorem blank_no {y : Str} (e : y ≠ t_unknown) : blankOf y = y := by unfold blankOf; rw [if_neg e]

theorem bare_spec {c : Cx} {k : Nat} {A : Around} {s : Shared} {l : Addr} {items : Array Value} {ep : Nat} {fs : List Str} {Q : Value → Shared → Prop} {E : Value → Shared → Prop} (I : SInv c s) (R : Room (k + 1) A)
    (hl : s.heap.get? l = some (lstO items ep)) (hlo : 270 ≤ l) (hfs : StrsAre items.toList fs) (hz : items.size ≤ 1000)
    (h : ∀ D ys ep' s', StrsAre ys.toList (fs.map blankOf) → MEv c [] [] [(D, lstO ys ep')] s s' → Q (.ref D) s') : wpAny c.M A (call (.ref 251) [.ref l]) Q E s := by
  refine enterL [(n_fields, .ref l)] [] I R (by walk_at "fn") ?_
  intro L s1 eL B kp R'
  have hs0 : s.heap.objs.size ≤ s1.heap.objs.size := by have := B.size; rwa [hideAll_size] at this
  refine sK ?_
  refine wpAny_Return_some ?_
  refine e_comp (fun j y nw => ∃ v t, fs[j]? = some v ∧ y = .str (blankOf v) t ∧ nw = []) R'.handled rfl rfl (by decide) (by decide) (by decide) (fun K1 E1 hK1 => ?_)
  refine b_name B (envF_locals _ _ _) (by rfl) (by kernel_rfl) (by kernel_rfl) (by kernel_rfl) ?_
  refine hK1 l items _ _ B.inv (kp _ _ hl) rfl ⟨_, rfl⟩ hlo hz ?_ ?_
  · intro j v C m mu s2 E' hv hC B2
    obtain ⟨y, t, hy, rfl⟩ := strsAre_back hfs j v (by rw [Array.getElem?_toList]; exact hv)
    refine wpAny_IfExp ?_
    refine wpAny_isTrue_Compare1 ?_
    refine b_name B2 rfl look_here rfl (by kernel_rfl) (by kernel_rfl) ?_
    refine b_str B2 ?_
    intro t3 s3 B3
    refine b_eq_str ?_
    refine b_bool ?_
    by_cases e : y = t_unknown
    · rw [show decide (y = ⟨⟨[117, 110, 107, 110, 111, 119, 110]⟩⟩) = true from decide_eq_true e]
      refine (if_pos rfl).mpr ?_
      refine b_str B3 ?_
      intro t4 s4 B4
      refine ⟨[], ⟨y, t4, hy, ?_, rfl⟩, ?_, B4⟩
      · rw [blank_yes e]
      · intro p hp; cases hp
    · rw [show decide (y = ⟨⟨[117, 110, 107, 110, 111, 119, 110]⟩⟩) = false from decide_eq_false e]
      refine (if_neg Bool.false_ne_true).mpr ?_
      refine b_name B3 rfl look_here rfl (by kernel_rfl) (by kernel_rfl) ?_
      refine ⟨[], ⟨y, t, hy, ?_, rfl⟩, ?_, B3⟩
      · rw [blank_no e]
      · intro p hp; cases hp
  · intro D ys ep' nest s' M hys hF
    have B2 := B.turned (mu := []) (rest := []) M
    refine h D ys ep' s' ?_ (Bod.mev (mu := []) (mu' := []) (nw := [(D, lstO ys ep')]) (rest := nest) (by simpa using B2) rfl fun p hp => by
      rw [List.mem_singleton.mp hp]
      exact Nat.le_trans hs0 (M.new _ (List.mem_cons_self ..)).2)
    refine strsAre_of ?_ ?_
    · have := strsAre_length hfs
      rw [Array.length_toList] at this
      rw [Array.length_toList, hys, List.length_map, this]
    · intro j v hv
      obtain ⟨nw, ⟨y, t, h1, h2, _⟩, _⟩ := hF j v (by rw [← Array.getElem?_toList]; exact hv)
      exact ⟨blankOf y, t, by rw [List.getElem?_map, h1]; rfl, h2⟩
end Mine
end
section
namespace Mine
open PySem PySem.W PySem.W.X PyProof.Rows PySem.Calls

noncomputable def fillRow (W : Int) : Str → List Str → Str × List Str
  | row, [] => (row, [])
  | row, e :: r => if (row.length : Int) + 1 + e.length ≤ W then fillRow W (row ++ t_blank ++ e) r else (row, e :: r)
noncomputable def row0 (rows : List Str) (e : Str) : Str := (if rows.isEmpty then t_empty else t_blank) ++ e
noncomputable def rowsN (W : Int) : Nat → List Str → List Str → List Str
  | 0, rows, _ => rows
  | _ + 1, rows, [] => rows
  | n + 1, rows, e :: r => rowsN W n (rows ++ [(fillRow W (row0 rows e) r).1]) (fillRow W (row0 rows e) r).2
noncomputable def rowsOf (W : Int) (es : List Str) : List Str := rowsN W es.length [] es

theorem Str.len_append (a b : Str) : (a ++ b).length = a.length + b.length := by
  show (a.cps ++ b.cps).size = _
  rw [Array.size_append]; rfl

theorem drop_get {es : List Str} {i : Nat} {e : Str} (h : es[i]? = some e) : es.drop i = e :: es.drop (i + 1) := by
  obtain ⟨hi, rfl⟩ := List.getElem?_eq_some_iff.mp h
  exact List.drop_eq_getElem_cons hi

inductive RowI (c : Cx) (s : Shared) (L l RR : Addr) (W : Int) (tw : Tok) (es : List Str) (n : Nat) (s' : Shared) : Prop
  | mk (i : Nat) (m : List (Str × Value)) (ys : Array Value) (ep' : Nat) (rows : List Str) (t : Tok) (fuel : Nat) (h1 : n = es.length - i) (h2 : i ≤ es.length) (h3 : m.lookup n_entries = some (.ref l)) (h4 : m.lookup n_width = some (.int W tw)) (h5 : m.lookup n_rows = some (.ref RR)) (h6 : m.lookup n_first = some (.int (i : Nat) t)) (h7 : StrsAre ys.toList rows) (h8 : ys.size ≤ i) (h9 : es.length - i ≤ fuel) (h10 : rowsN W fuel rows (es.drop i) = rowsOf W es) (h11 : Bod c (Sees s) L m [(RR, lstO ys ep')] s') : RowI c s L l RR W tw es n s'
inductive RowJ (c : Cx) (s : Shared) (L l RR : Addr) (W : Int) (tw : Tok) (es : List Str) (i : Nat) (rows : List Str) (e : Str) (ys : Array Value) (ep' : Nat) (n : Nat) (s' : Shared) : Prop
  | mk (i2 : Nat) (m' : List (Str × Value)) (row : Str) (tr t2 : Tok) (h1 : n = es.length - i2) (h2 : i + 1 ≤ i2) (h3 : i2 ≤ es.length) (h4 : m'.lookup n_entries = some (.ref l)) (h5 : m'.lookup n_width = some (.int W tw)) (h6 : m'.lookup n_rows = some (.ref RR)) (h7 : m'.lookup n_first = some (.int (i2 : Nat) t2)) (h8 : m'.lookup n_row = some (.str row tr)) (h9 : row.length ≤ 1002 * i2) (h10 : fillRow W (row0 rows e) (es.drop (i + 1)) = fillRow W row (es.drop i2)) (h11 : Bod c (Sees s) L m' [(RR, lstO ys ep')] s') : RowJ c s L l RR W tw es i rows e ys ep' n s'
theorem rows_spec {c : Cx} {k : Nat} {A : Around} {s : Shared} {l : Addr} {items : Array Value} {ep : Nat} {es : List Str} {W : Int} {tw : Tok} {Q : Value → Shared → Prop} {E : Value → Shared → Prop} (I : SInv c s) (R : Room (k + 1) A)
    (hl : s.heap.get? l = some (lstO items ep)) (hlo : 270 ≤ l) (hes : StrsAre items.toList es) (hz : items.size ≤ 100) (hln : ∀ e ∈ es, e.length ≤ 1000)
    (h : ∀ D ys ep' s', StrsAre ys.toList (rowsOf W es) → MEv c [] [] [(D, lstO ys ep')] s s' → Q (.ref D) s') : wpAny c.M A (call (.ref 258) [.ref l, .int W tw]) Q E s := by
  have hsz : items.size = es.length := by have := strsAre_length hes; rwa [Array.length_toList] at this
  refine enterL [(n_width, .int W tw), (n_entries, .ref l)] [] I R (by walk_at "fn") ?_
  intro L s1 eL B kp R'
  have hzL : (Sees s).objs.size ≤ L := by rw [hideAll_size, eL]; exact Nat.le_refl _
  have gl : (Sees s).get? l = some (lstO items ep) := hideAll_get _ hl (by rw [List.append_nil]; exact Bod.notTab l hlo)
  have isl : ∀ {m mu s'}, Bod c (Sees s) L m mu s' → s'.heap.IsList l items := fun B' => ⟨_, B'.keep _ _ gl, rfl, _, rfl⟩
  have item : ∀ (i : Nat) e, es[i]? = some e → ∃ t, items[i]? = some (.str e t) := fun i e he => by
    obtain ⟨t, ht⟩ := strsAre_get hes i e he
    exact ⟨t, by rw [← Array.getElem?_toList]; exact ht⟩
  refine sK ?_
  refine Assign_Tuple_swapped (names := [n_rows, n_first]) ?_ (by kernel_rfl) (by kernel_rfl)
  refine e_tupleQ fun q1 e1 hq1 => ?_
  refine a_cons ?_
  refine e_list ?_
  refine a_nil ?_
  refine ⟨by walk_at "sz", _, _, _, _, B, ?_⟩
  intro RR s2 B2 hRR
  refine a_cons ?_
  refine b_int B2 ?_
  intro t3 s3 B3
  refine a_nil ?_
  refine hq1 _ _ _ _ _ _ (by walk_at "sz") B3 ?_
  intro T s4 B4 hT
  refine unpackItems_tuple (items := #[.ref RR, .int 0 t3]) R'.handled ⟨_, B4.own (T, tupO [.ref RR, .int 0 t3]) (List.mem_cons_self ..), rfl, _, rfl⟩ ?_
  intro h5 x5
  have B5 := B4.kept (h' := h5) (t := s4.toks) (fun b o e => x5 b o (Nat.ne_of_lt (Heap.lt_size e)) e) hzL
  refine assignInOrder_cons ?_
  refine bindName_ ?_
  refine b_store B5 (envF_locals _ _ _) (by kernel_rfl) (by kernel_rfl) ?_
  intro s6 B6
  refine assignInOrder_cons ?_
  refine bindName_ ?_
  refine b_store B6 (envF_locals _ _ _) (by kernel_rfl) (by kernel_rfl) ?_
  intro s7 B7
  refine assignInOrder_nil ?_
  have B7 := B7.drop (mu' := [(RR, lstO #[] 0)]) (.cons _ (.refl _))
  clear B B2 B3 B4 B5 B6
  dsimp only [seqK]
  refine sK ?_
  refine wpAny_While ?_
  refine codeAny_whileLoop (RowI c s L l RR W tw es) ?_ es.length
    ⟨0, _, #[], 0, [], t3, es.length, rfl, Nat.zero_le _, rfl, rfl, rfl, rfl, .nil, Nat.le_refl _, Nat.le_refl _, rfl, B7⟩
  intro n s8 zz1
  refine hG fun zP zK => ?_
  obtain ⟨i, m, ys, ep', rows, t, fuel, rfl, hi, m1, m2, m3, m4, hys, hyz, hfu, hrw, B8⟩ := zz1
  refine zK ?_
  clear B7
  refine qE fun Q0 E0 hQ0 => ?_
  refine wpAny_isTrue_Compare1 ?_
  refine b_name B8 (envF_locals _ _ _) (m4) (by kernel_rfl) (by kernel_rfl) (by kernel_rfl) ?_
  refine c_name ?_
  refine b_glob B8 (gv_len _) (by kernel_rfl) (by kernel_rfl) (by kernel_rfl) (by kernel_rfl) (by kernel_rfl) ?_
  refine cw_builtin ?_
  refine a_cons ?_
  refine b_name B8 (envF_locals _ _ _) (m1) (by kernel_rfl) (by kernel_rfl) (by kernel_rfl) ?_
  refine a_nil ?_
  refine len_list (isl B8) (by lia) ?_
  have B9 := B8.toks (s8.toks + 1 + 1)
  refine P.lt_int ?_
  refine b_bool ?_
  by_cases hlt : i < es.length
  · rw [decide_eq_true (show ((i : Nat) : Int) < (items.size : Int) by lia)]
    refine hQ0 _ _ ?_
    refine (if_pos rfl).mpr ?_
    refine qE fun Q1 E1 hQ1 => ?_
    obtain ⟨e, he⟩ : ∃ e, es[i]? = some e := ⟨es[i], List.getElem?_eq_getElem hlt⟩
    have hdr := drop_get he
    obtain ⟨te, hte⟩ := item i e he
    have hel := hln e (List.mem_of_getElem? he)
    refine sK ?_
    refine wpAny_Assign_Name ?_
    refine wpAny_BinOp ?_
    refine wpAny_mono (Q := fun v s' => ∃ tb, v = .str (if rows.isEmpty then t_empty else t_blank) tb ∧ Bod c (Sees s) L m [(RR, lstO ys ep')] s') ?_ ?_ (fun _ _ x => x)
    · refine wpAny_IfExp ?_
      refine wpAny_isTrue_value ?_
      refine b_name B9 (envF_locals _ _ _) (m3) (by kernel_rfl) (by kernel_rfl) (by kernel_rfl) ?_
      refine wpAny_truthy_list (items := ys) ⟨_, B9.own (RR, lstO ys ep') (mI 0 rfl), rfl, _, rfl⟩ (by lia) ?_
      have B10 := B9.toks (s8.toks + 1 + 1 + 1 + 1)
      have eem : ys.isEmpty = rows.isEmpty := by
        have := strsAre_length hys
        rw [Array.length_toList] at this
        rw [Array.isEmpty, this]
        cases rows <;> rfl
      rw [eem]
      cases hem : rows.isEmpty
      · refine (if_pos rfl).mpr ?_
        refine b_str B10 ?_
        intro tb s' B'
        exact ⟨tb, rfl, B'⟩
      · refine (if_neg Bool.false_ne_true).mpr ?_
        refine b_str B10 ?_
        intro tb s' B'
        exact ⟨tb, rfl, B'⟩
    clear B8 B9
    rintro v s9 ⟨tb, rfl, B9⟩
    refine e_sub "list" "list.__getitem__" lk_lst ?_
    refine b_name B9 (envF_locals _ _ _) (m1) (by kernel_rfl) (by kernel_rfl) (by kernel_rfl) ?_
    refine b_name B9 (envF_locals _ _ _) (m4) (by kernel_rfl) (by kernel_rfl) (by kernel_rfl) ?_
    refine ⟨(isl B9).typeIs, ?_⟩
    refine wpAny_getItem_list (x := .str e te) (isl B9) (by lia) (by lia) (by simpa using hte) ?_
    refine b_add_str B9 ?_ ?_
    · rw [sizeLine_val]
      have : (if rows.isEmpty then t_empty else t_blank : Str).length ≤ 1 := by split <;> decide
      lia
    intro t10 s10 B10
    refine b_store B10 (envF_locals _ _ _) (by kernel_rfl) (by kernel_rfl) ?_
    intro s11 B11
    dsimp only [seqK]
    refine sK ?_
    refine wpAny_Assign_Name ?_
    refine wpAny_BinOp ?_
    refine b_name B11 (envF_locals _ _ _) (look_there (by kernel_rfl) m4) (by kernel_rfl) (by kernel_rfl) (by kernel_rfl) ?_
    refine b_int B11 ?_
    intro t12 s12 B12
    refine PyProof.Rows.add_int ?_
    have B12 := B12.toks (s12.toks + 1)
    refine b_store B12 (envF_locals _ _ _) (by kernel_rfl) (by kernel_rfl) ?_
    intro s13 B13
    dsimp only [seqK]
    clear B9 B10 B11 B12
    have hr0 : (row0 rows e).length ≤ 1002 * (i + 1) := by
      unfold row0
      rw [Str.len_append]
      have : (if rows.isEmpty then t_empty else t_blank : Str).length ≤ 1 := by split <;> decide
      lia
    refine sK ?_
    refine wpAny_While ?_
    refine codeAny_whileLoop (RowJ c s L l RR W tw es i rows e ys ep') ?_ (es.length - (i + 1))
      ⟨i + 1, _, row0 rows e, t10, s12.toks, rfl, Nat.le_refl _, hlt, look_there (by kernel_rfl) (look_there (by kernel_rfl) m1), look_there (by kernel_rfl) (look_there (by kernel_rfl) m2), look_there (by kernel_rfl) (look_there (by kernel_rfl) m3), look_here, look_there (by kernel_rfl) look_here, hr0, rfl, B13⟩
    clear B13
    intro n s14 zz1
    refine hG fun zP zK => ?_
    obtain ⟨i2, m', row, tr, t2, rfl, hi1, hi2, k1, k2, k3, k4, k5, hrl, hF, B14⟩ := zz1
    refine zK ?_
    refine qE fun Q2 E2 hQ2 => ?_
    have hcond : ∃ b : Bool, b = decide (∃ e2, es[i2]? = some e2 ∧ (row.length : Int) + 1 + e2.length ≤ W) := ⟨_, rfl⟩
    obtain ⟨bb, hbb⟩ := hcond
    refine wpAny_mono (Q := fun b s' => b = bb ∧ Bod c (Sees s) L m' [(RR, lstO ys ep')] s') ?_ ?_ (fun _ _ x => x)
    · refine wpAny_isTrue_BoolOp ?_
      refine wpAny_allTrue_And_cons ?_
      refine wpAny_isTrue_Compare1 ?_
      refine b_name B14 (envF_locals _ _ _) (k4) (by kernel_rfl) (by kernel_rfl) (by kernel_rfl) ?_
      refine c_name ?_
      refine b_glob B14 (gv_len _) (by kernel_rfl) (by kernel_rfl) (by kernel_rfl) (by kernel_rfl) (by kernel_rfl) ?_
      refine cw_builtin ?_
      refine a_cons ?_
      refine b_name B14 (envF_locals _ _ _) (k1) (by kernel_rfl) (by kernel_rfl) (by kernel_rfl) ?_
      refine a_nil ?_
      refine len_list (isl B14) (by lia) ?_
      have B15 := B14.toks (s14.toks + 1 + 1)
      refine P.lt_int ?_
      refine b_bool ?_
      by_cases hlt2 : i2 < es.length
      · rw [decide_eq_true (show ((i2 : Nat) : Int) < (items.size : Int) by lia)]
        refine (if_pos rfl).mpr ?_
        obtain ⟨e2, he2⟩ : ∃ e, es[i2]? = some e := ⟨es[i2], List.getElem?_eq_getElem hlt2⟩
        obtain ⟨te2, hte2⟩ := item i2 e2 he2
        have hel2 := hln e2 (List.mem_of_getElem? he2)
        refine wpAny_allTrue_And_cons ?_
        refine wpAny_isTrue_Compare1 ?_
        refine wpAny_BinOp ?_
        refine wpAny_BinOp ?_
        refine c_name ?_
        refine b_glob B15 (gv_len _) (by kernel_rfl) (by kernel_rfl) (by kernel_rfl) (by kernel_rfl) (by kernel_rfl) ?_
        refine cw_builtin ?_
        refine a_cons ?_
        refine b_name B15 (envF_locals _ _ _) (k5) (by kernel_rfl) (by kernel_rfl) (by kernel_rfl) ?_
        refine a_nil ?_
        refine P.len_str (by lia) ?_
        have B16 := B15.toks (s14.toks + 1 + 1 + 1 + 1)
        refine b_int B16 ?_
        intro t17 s17 B17
        refine PyProof.Rows.add_int ?_
        have B18 := B17.toks (s17.toks + 1)
        refine c_name ?_
        refine b_glob B18 (gv_len _) (by kernel_rfl) (by kernel_rfl) (by kernel_rfl) (by kernel_rfl) (by kernel_rfl) ?_
        refine cw_builtin ?_
        refine a_cons ?_
        refine e_sub "list" "list.__getitem__" lk_lst ?_
        refine b_name B18 (envF_locals _ _ _) (k1) (by kernel_rfl) (by kernel_rfl) (by kernel_rfl) ?_
        refine b_name B18 (envF_locals _ _ _) (k4) (by kernel_rfl) (by kernel_rfl) (by kernel_rfl) ?_
        refine ⟨(isl B18).typeIs, ?_⟩
        refine wpAny_getItem_list (x := .str e2 te2) (isl B18) (by lia) (by lia) (by simpa using hte2) ?_
        refine a_nil ?_
        refine P.len_str (by lia) ?_
        have B19 := B18.toks (s17.toks + 1 + 1 + 1)
        refine PyProof.Rows.add_int ?_
        have B20 := B19.toks (s17.toks + 1 + 1 + 1 + 1)
        refine b_name B20 (envF_locals _ _ _) (k2) (by kernel_rfl) (by kernel_rfl) (by kernel_rfl) ?_
        refine P.le_int ?_
        refine b_bool ?_
        have eb : bb = decide ((row.length : Int) + 1 + e2.length ≤ W) := by
          rw [hbb]
          by_cases q : (row.length : Int) + 1 + e2.length ≤ W
          · rw [decide_eq_true q, decide_eq_true ⟨e2, he2, q⟩]
          · rw [decide_eq_false q, decide_eq_false]
            rintro ⟨e3, h3, q3⟩
            rw [he2] at h3
            cases h3
            exact q q3
        rw [← eb]
        cases hb : bb
        · refine (if_neg Bool.false_ne_true).mpr ?_
          exact ⟨rfl, B20⟩
        · refine (if_pos rfl).mpr ?_
          refine wpAny_allTrue_And_nil ?_
          exact ⟨rfl, B20⟩
      · rw [decide_eq_false (show ¬ (((i2 : Nat) : Int) < (items.size : Int)) by lia)]
        refine (if_neg Bool.false_ne_true).mpr ?_
        refine ⟨?_, B15⟩
        rw [hbb, decide_eq_false]
        rintro ⟨e3, h3, _⟩
        exact hlt2 (List.getElem?_eq_some_iff.mp h3).1
    clear B14
    rintro b s15 ⟨rfl, B15⟩
    cases hb : b
    · refine hQ2 _ _ ?_
      refine (if_neg Bool.false_ne_true).mpr ?_
      have hno : fillRow W row (es.drop i2) = (row, es.drop i2) := by
        rw [hbb] at hb
        have hb := of_decide_eq_false hb
        cases hd : es[i2]? with
        | none =>
          have : es.drop i2 = [] := List.drop_eq_nil_of_le (List.getElem?_eq_none_iff.mp hd)
          rw [this]; rfl
        | some e2 =>
          rw [drop_get hd]
          show (if (row.length : Int) + 1 + e2.length ≤ W then _ else _) = _
          rw [if_neg (fun q => hb ⟨e2, hd, q⟩)]
      rw [hno] at hF
      refine wpAny_execs_nil ?_
      dsimp only [seqK]
      refine sK ?_
      refine wpAny_Expr ?_
      refine c_attr ?_
      refine b_name B15 (envF_locals _ _ _) (k3) (by kernel_rfl) (by kernel_rfl) (by kernel_rfl) ?_
      refine ml_append (B15.own (RR, lstO ys ep') (mI 0 rfl)) ?_
      refine cw_builtin ?_
      refine a_cons ?_
      refine b_name B15 (envF_locals _ _ _) (k5) (by kernel_rfl) (by kernel_rfl) (by kernel_rfl) ?_
      refine a_nil ?_
      refine b_append (pre := []) (post := []) B15 rfl (by rw [sizeLine_val]; lia) ?_
      intro ep2 s16 B16
      dsimp only [seqK]
      refine wpAny_execs_nil ?_
      refine hQ1 _ _ ?_
      refine ⟨es.length - i2, by lia, i2, m', ys.push (.str row tr), ep2, rows ++ [row], t2, fuel - 1, rfl, hi2, k1, k2, k3, k4, ?_, ?_, by lia, ?_, B16⟩
      · rw [Array.toList_push]; exact strsAre_append hys (.cons _ _ .nil)
      · rw [Array.size_push]; lia
      · rw [← hrw, hdr]
        obtain ⟨f, rfl⟩ : ∃ f, fuel = f + 1 := ⟨fuel - 1, by lia⟩
        show rowsN W f (rows ++ [row]) (es.drop i2) = rowsN W f (rows ++ [(fillRow W (row0 rows e) (es.drop (i + 1))).1]) (fillRow W (row0 rows e) (es.drop (i + 1))).2
        rw [hF]
    · refine hQ2 _ _ ?_
      refine (if_pos rfl).mpr ?_
      refine qE fun Q3 E3 hQ3 => ?_
      rw [hbb] at hb
      obtain ⟨e2, he2, hfit⟩ := of_decide_eq_true hb
      obtain ⟨te2, hte2⟩ := item i2 e2 he2
      have hel2 := hln e2 (List.mem_of_getElem? he2)
      have hlt2 : i2 < es.length := (List.getElem?_eq_some_iff.mp he2).1
      refine sK ?_
      refine wpAny_Assign_Name ?_
      refine wpAny_BinOp ?_
      refine wpAny_BinOp ?_
      refine b_name B15 (envF_locals _ _ _) (k5) (by kernel_rfl) (by kernel_rfl) (by kernel_rfl) ?_
      refine b_str B15 ?_
      intro t16 s16 B16
      refine b_add_str B16 ?_ ?_
      · rw [sizeLine_val]; show row.length + 1 ≤ _; lia
      intro t17 s17 B17
      refine e_sub "list" "list.__getitem__" lk_lst ?_
      refine b_name B17 (envF_locals _ _ _) (k1) (by kernel_rfl) (by kernel_rfl) (by kernel_rfl) ?_
      refine b_name B17 (envF_locals _ _ _) (k4) (by kernel_rfl) (by kernel_rfl) (by kernel_rfl) ?_
      refine ⟨(isl B17).typeIs, ?_⟩
      refine wpAny_getItem_list (x := .str e2 te2) (isl B17) (by lia) (by lia) (by simpa using hte2) ?_
      refine b_add_str B17 ?_ ?_
      · rw [sizeLine_val, Str.len_append]; show row.length + 1 + _ ≤ _; lia
      intro t18 s18 B18
      refine b_store B18 (envF_locals _ _ _) (by kernel_rfl) (by kernel_rfl) ?_
      intro s19 B19
      dsimp only [seqK]
      refine sK ?_
      refine wpAny_Assign_Name ?_
      refine wpAny_BinOp ?_
      refine b_name B19 (envF_locals _ _ _) (look_there (by kernel_rfl) k4) (by kernel_rfl) (by kernel_rfl) (by kernel_rfl) ?_
      refine b_int B19 ?_
      intro t20 s20 B20
      refine PyProof.Rows.add_int ?_
      have B20 := B20.toks (s20.toks + 1)
      refine b_store B20 (envF_locals _ _ _) (by kernel_rfl) (by kernel_rfl) ?_
      intro s21 B21
      dsimp only [seqK]
      refine wpAny_execs_nil ?_
      refine hQ3 _ _ ?_
      refine ⟨es.length - (i2 + 1), by lia, i2 + 1, _, row ++ t_blank ++ e2, t18, s20.toks, rfl, by lia, hlt2, look_there (by kernel_rfl) (look_there (by kernel_rfl) k1), look_there (by kernel_rfl) (look_there (by kernel_rfl) k2), look_there (by kernel_rfl) (look_there (by kernel_rfl) k3), look_here, look_there (by kernel_rfl) look_here, ?_, ?_, B21⟩
      · rw [Str.len_append, Str.len_append]; show row.length + 1 + _ ≤ _; lia
      · rw [hF, drop_get he2]
        show (if (row.length : Int) + 1 + e2.length ≤ W then _ else _) = _
        rw [if_pos hfit]
  · rw [decide_eq_false (show ¬ (((i : Nat) : Int) < (items.size : Int)) by lia)]
    refine hQ0 _ _ ?_
    refine (if_neg Bool.false_ne_true).mpr ?_
    refine wpAny_execs_nil ?_
    dsimp only [seqK]
    refine sK ?_
    refine wpAny_Return_some ?_
    refine b_name B9 (envF_locals _ _ _) (m3) (by kernel_rfl) (by kernel_rfl) (by kernel_rfl) ?_
    have efin : rows = rowsOf W es := by
      rw [← hrw]
      have : es.drop i = [] := List.drop_eq_nil_of_le (by lia)
      rw [this]
      cases fuel <;> rfl
    refine h RR ys ep' _ (by rw [← efin]; exact hys) (Bod.mev (mu := []) (mu' := []) (nw := [(RR, _)]) (rest := []) B9 rfl fun p hp => by
      rw [List.mem_singleton.mp hp]
      rw [hideAll_size] at hRR
      exact hRR)
end Mine
end
section
namespace Mine
open PySem PySem.W PySem.W.X PyProof.Rows PySem.Calls

theorem sl_fnext : Slot "filter" "__next__" "filter.__next__" :=
  .of (owner := "filter") (n := "__next__") (by rw [typeLookup_type, builtinLookup_eq_fast]; kernel_rfl) (by decide +kernel) (by decide +kernel) (by decide +kernel)
    (by first | exact .inl (by decide +kernel) | exact .inr (by decide +kernel)) (by rw [isSubtype_type]; kernel_rfl)
theorem sl_fiter : Slot "filter" "__iter__" "filter.__iter__" :=
  .of (owner := "filter") (n := "__iter__") (by rw [typeLookup_type, builtinLookup_eq_fast]; kernel_rfl) (by decide +kernel) (by decide +kernel) (by decide +kernel)
    (by first | exact .inl (by decide +kernel) | exact .inr (by decide +kernel)) (by rw [isSubtype_type]; kernel_rfl)
theorem sl_finit : Slot "filter" "__init__" "object.__init__" :=
  .of (owner := "object") (n := "__init__") (by rw [typeLookup_type, builtinLookup_eq_fast]; kernel_rfl) (by decide +kernel) (by decide +kernel) (by decide +kernel)
    (by first | exact .inl (by decide +kernel) | exact .inr (by decide +kernel)) (by rw [isSubtype_type]; kernel_rfl)
theorem en_fnext : entryFor table "filter.__next__" = some Builtin.«filter.__next__» := entryFor_of_tree (by kernel_rfl)
theorem en_fnew : entryFor table "filter.__new__" = some Builtin.«filter.__new__» := entryFor_of_tree (by kernel_rfl)
theorem en_fiter : entryFor table "filter.__iter__" = some Builtin.«dict_keyiterator.__iter__» :=
  entryFor_alias (id' := "dict_keyiterator.__iter__") (by kernel_rfl) (by kernel_rfl) (by decide +kernel) (by kernel_rfl)
theorem ar_fnext (a : Value) : argsOk "filter.__next__" ⟨[a], []⟩ := by unfold argsOk; kernel_rfl
theorem ar_fiter (a : Value) : argsOk "filter.__iter__" ⟨[a], []⟩ := by unfold argsOk; kernel_rfl
theorem mro_filter : mroOf (.type "filter") = pure [.type "filter", .type "object"] := by rw [mroOf_type]; kernel_rfl
theorem lk_fnew : typeLookup (.type "filter") "__new__" = pure (some (.builtin "filter.__new__")) := by rw [typeLookup_type, builtinLookup_eq_fast]; kernel_rfl
theorem called_filter : TypeCalled "filter" "filter.__new__" "object.__init__" :=
  ⟨by decide +kernel, by decide +kernel, ⟨_, _, mro_filter⟩, madeBy_type mro_filter lk_fnew (by decide +kernel), by decide +kernel, by rw [isSubtype_type]; kernel_rfl, sl_finit⟩
theorem tc_filter (a b : Value) : checkTypeCall "filter" ⟨[a, b], []⟩ = pure () := by kernel_rfl
theorem nc_filter (a b : Value) : checkBuiltinCall "filter.__new__" ⟨[.type "filter", a, b], []⟩ = pure () := by kernel_rfl
theorem sub_filter : isSubtype (.type "filter") (.type "filter") = pure true := by rw [isSubtype_type]; kernel_rfl

noncomputable abbrev tiO (t : Addr) (i : Nat) : Obj := ⟨.type "tuple_iterator", none, .fields #[.ref t, .int i 0], #[]⟩
noncomputable abbrev filO (it : Addr) : Obj := ⟨.type "filter", none, .fields #[.builtin "len", .ref it], #[]⟩

theorem meets_filter_new (T : Addr) (items : Array Value) :
    Meets (Builtin.«filter.__new__» ⟨[.type "filter", .builtin "len", .ref T], []⟩) (fun _ R s => s.heap.IsTuple T items ∧
      R (.ok (.ret (.ref (s.heap.push (tiO T 0)).objs.size))) { s with heap := (s.heap.push (tiO T 0)).push (filO s.heap.objs.size) }) :=
  .of_wp fun prog w A R s h => by
    obtain ⟨hp, g, d, tk, os⟩ := s; obtain ⟨hl1, h⟩ := h
    have hsub := sub_filter
    have hL1 : Heap.IsTuple (Shared.heap ⟨hp, g, d, tk, os⟩) T items := hl1
    wp_walk using wpAny_pyIter_tuple hL1
    exact ⟨_, rfl, h⟩

section
variable {prog : Program} {w : World} {A : Around} {E : Value → Shared → Prop} {s : Shared}
theorem call_filter {T : Addr} {items : Array Value} {Q : Value → Shared → Prop} (hT : s.heap.IsTuple T items)
    (h : Q (.ref (s.heap.objs.size + 1)) { s with heap := (s.heap.push (tiO T 0)).push (filO s.heap.objs.size) }) :
    wpAny (model prog w) A (call (.type "filter") [.builtin "len", .ref T]) Q E s := by
  refine callType_new called_filter (by decide) (tc_filter _ _) (nc_filter _ _) (fun obj => F.args_object_init_3 obj _ _) en_fnew
    (meets_filter_new T items) ⟨hT, ?_⟩
  have z1 : (s.heap.push (tiO T 0)).objs.size = s.heap.objs.size + 1 := Heap.size_push ..
  have g5 : ((s.heap.push (tiO T 0)).push (filO s.heap.objs.size)).get? (s.heap.push (tiO T 0)).objs.size = some _ := Heap.get?_push_size _ rfl
  show _ ∧ _
  refine ⟨⟨_, g5, rfl⟩, ?_⟩
  rw [z1]
  exact h

theorem iter_filter {f it : Addr} {Q : Value → Shared → Prop} (hf : s.heap.get? f = some (filO it)) (h : Q (.ref f) s) : wpAny (model prog w) A (pyIter (.ref f)) Q E s := by
  have hT : s.TypeIs (.ref f) "filter" := ⟨_, hf, rfl⟩
  refine wpAny_pyIter_slot hT sl_fiter (wpAny_call_entry sl_fiter hT en_fiter ?_ (ar_fiter _))
  show wpAny _ _ (ret (.ref f)) _ _ s
  exact wpAny_pure ⟨_, rfl, "filter", _, hT, sl_fnext.lookup, h⟩

/-- filter(len, a tuple): the next text, none of them empty -/
theorem next_filter_item {f it t : Addr} {i : Nat} {items : Array Value} {x : Str} {u : Tok} {Q : Option Value → Shared → Prop} (hf : s.heap.get? f = some (filO it)) (hit : s.heap.IsTupleIter it t i) (ht : s.heap.IsTuple t items)
    (hx : items[i]? = some (.str x u)) (hx0 : x.length ≠ 0) (hxz : x.length ≤ 1000000)
    (hQ : ∀ h' k, h'.IsTupleIter it t (i + 1) → Heap.SameBut it s.heap h' → Q (some (.str x u)) { s with heap := h', toks := k }) : wpAny (model prog w) A (pyNext (.ref f)) Q E s := by
  have hT : s.TypeIs (.ref f) "filter" := ⟨_, hf, rfl⟩
  refine hG fun zP zK => ?_
  obtain ⟨o, ho, hc, hd⟩ := id hit
  obtain ⟨ol, hol, _, nl, hdl⟩ := ht
  refine zK ?_
  unfold pyNext
  refine wpAny_bind (wpAny_attempt (wpAny_callSpecial?_slot (name := Str.ofString "__next__") hT sl_fnext (wpAny_call_entry sl_fnext hT en_fnext ?_ (ar_fnext _))))
  show wpAny _ _ (field (.ref f) 0 >>= _) _ _ s
  refine wpAny_bind (wpAny_field hf rfl (x := .builtin "len") rfl ?_)
  show wpAny _ _ (field (.ref f) 1 >>= _) _ _ s
  refine wpAny_bind (wpAny_field hf rfl (x := .ref it) rfl ?_)
  refine wpAny_bind (wpAny_callSpecial?_slot (name := Str.ofString "__next__") hit.typeIs F.slot_tuple_iterator_next
    (wpAny_call_entry F.slot_tuple_iterator_next hit.typeIs F.entry_tuple_iterator_next ?_ (F.args_tuple_iterator_next_1 _)))
  show wpAny _ _ (field (.ref it) 0 >>= _) _ _ s
  refine wpAny_bind (wpAny_field ho hd (x := .ref t) rfl ?_)
  show wpAny _ _ (if (Value.ref t == Value.none) = true then _ else _) _ _ s
  rw [if_neg (show ¬ ((Value.ref t == Value.none) = true) from Bool.false_ne_true)]
  show wpAny _ _ (field (.ref it) 1 >>= _) _ _ s
  refine wpAny_bind (wpAny_field ho hd (x := .int i 0) rfl ?_)
  show wpAny _ _ (seqItems? (.ref t) >>= _) _ _ s
  refine wpAny_bind (wpAny_seqItems hol hdl ?_)
  simp only [Int.toNat_natCast, hx]
  refine wpAny_bind (wpAny_setField ho hd (by simp) (wpAny_pure ⟨.str x u, rfl, ?_⟩))
  refine wpAny_bind (wpAny_holding ?_)
  have hne : ((Value.builtin "len" == Value.none || Value.builtin "len" == Value.type "bool") = true) = False := by simp
  rw [if_neg (by rw [hne]; exact id)]
  refine wpAny_bind ?_
  refine P.len_str (by lia) ?_
  refine wpAny_holding ?_
  refine P.truthy_int ?_
  have ht2 : ((x.length : Int) != 0) = true := by
    have : (x.length : Int) ≠ 0 := by lia
    simpa using this
  rw [ht2]
  rw [if_pos rfl]
  refine wpAny_pure ⟨.str x u, rfl, wpAny_pure (hQ _ _ ?_ (Heap.SameBut.update ..))⟩
  exact ⟨_, Heap.get?_update_self _ ho (Obj.isFreed_of_fields (Obj.data_mapFields hd _)), (Obj.cls_mapFields ..).trans hc, by
    rw [Obj.data_mapFields hd]; simp [rawInt]⟩

theorem next_filter_end {f it t : Addr} {i : Nat} {items : Array Value} {Q : Option Value → Shared → Prop} (hh : A.handled = none) (hf : s.heap.get? f = some (filO it)) (hit : s.heap.IsTupleIter it t i) (ht : s.heap.IsTuple t items)
    (hx : items[i]? = none)
    (hQ : ∀ h', Heap.ExtBut it s.heap h' → Q none { s with heap := h' }) : wpAny (model prog w) A (pyNext (.ref f)) Q E s := by
  have hT : s.TypeIs (.ref f) "filter" := ⟨_, hf, rfl⟩
  refine hG fun zP zK => ?_
  obtain ⟨o, ho, hc, hd⟩ := id hit
  obtain ⟨ol, hol, _, nl, hdl⟩ := ht
  refine zK ?_
  unfold pyNext
  refine wpAny_bind (wpAny_attempt (wpAny_callSpecial?_slot (name := Str.ofString "__next__") hT sl_fnext (wpAny_call_entry sl_fnext hT en_fnext ?_ (ar_fnext _))))
  show wpAny _ _ (field (.ref f) 0 >>= _) _ _ s
  refine wpAny_bind (wpAny_field hf rfl (x := .builtin "len") rfl ?_)
  show wpAny _ _ (field (.ref f) 1 >>= _) _ _ s
  refine wpAny_bind (wpAny_field hf rfl (x := .ref it) rfl ?_)
  refine wpAny_bind (wpAny_callSpecial?_slot (name := Str.ofString "__next__") hit.typeIs F.slot_tuple_iterator_next
    (wpAny_call_entry F.slot_tuple_iterator_next hit.typeIs F.entry_tuple_iterator_next ?_ (F.args_tuple_iterator_next_1 _)))
  show wpAny _ _ (field (.ref it) 0 >>= _) _ _ s
  refine wpAny_bind (wpAny_field ho hd (x := .ref t) rfl ?_)
  show wpAny _ _ (if (Value.ref t == Value.none) = true then _ else _) _ _ s
  rw [if_neg (show ¬ ((Value.ref t == Value.none) = true) from Bool.false_ne_true)]
  show wpAny _ _ (field (.ref it) 1 >>= _) _ _ s
  refine wpAny_bind (wpAny_field ho hd (x := .int i 0) rfl ?_)
  show wpAny _ _ (seqItems? (.ref t) >>= _) _ _ s
  refine wpAny_bind (wpAny_seqItems hol hdl ?_)
  simp only [Int.toNat_natCast, hx]
  refine wpAny_bind (wpAny_rule (wpAny_bind (wpAny_setField ho hd (by simp) ?_)))
  show wpAny _ _ (newExc (.type "StopIteration") [] >>= _) _ _ _
  refine wpAny_bind ?_
  simp only [newExc, newTuple]
  refine wpAny_bind (wpAny_newObj_type ?_ (by size_fits))
  refine wpAny_bind (m := firstArgMember _ _) (wpAny_of_eq (a := Value.none) (by first | rfl | (simp only [firstArgMember]; rfl)) ?_)
  refine wpAny_newObj_type ?_ (by size_fits)
  simp only [raiseNew]
  refine wpAny_bind (wpAny_handled ?_)
  rw [show A.in1.in1.handled = none from hh]
  refine wpAny_bind (wpAny_pure (wpAny_throw ?_))
  refine wpAny_bind (wpAny_isInstance (T := "StopIteration") (b := true) ⟨_, Heap.get?_push_size _ rfl, rfl⟩ isSubtype_stop ?_)
  exact wpAny_pure (hQ _ (((Heap.SameBut.update ..).extBut.push _).push _))

theorem walks_filter (hh : A.handled = none) (f it t : Addr) (hfi : f ≠ it) (hti : t ≠ it) (items : Array Value) (xs : List Str) (hxs : StrsAre items.toList xs) (h0 : ∀ x ∈ xs, x.length ≠ 0 ∧ x.length ≤ 1000000) :
    Walks prog w A f [f, it, t] [it] items.size (fun i v => items[i]? = some v) (fun i h => h.get? f = some (filO it) ∧ h.IsTupleIter it t i ∧ h.IsTuple t items) where
  sub := fun b hb => by simp at hb; simp [hb]
  frame := fun _ _ _ st hk => ⟨hk f (mI 0 rfl) _ st.1, let ⟨o, ho, r⟩ := st.2.1; ⟨o, hk it (mI 1 rfl) o ho, r⟩, let ⟨o, ho, r⟩ := st.2.2; ⟨o, hk t (mI 2 rfl) o ho, r⟩⟩
  item := fun i s Q E hi st hQ => by
    refine hG fun zP zK => ?_
    obtain ⟨x, u, hx, hv⟩ := strsAre_back hxs i items[i] (by rw [Array.getElem?_toList, Array.getElem?_eq_getElem hi])
    refine zK ?_
    have hg : items[i]? = some (.str x u) := by rw [Array.getElem?_eq_getElem hi, hv]
    have hz := h0 x (List.mem_of_getElem? hx)
    refine next_filter_item st.1 st.2.1 st.2.2 hg hz.1 hz.2 fun h' k hit' hs' => ?_
    exact hQ _ h' k hg ⟨hs'.extBut _ _ hfi st.1, hit', st.2.2.extBut hs'.extBut hti⟩ fun b o hb e => hs'.extBut b o (fun h => hb (by simp [h])) e
  done := fun s Q E st hQ => next_filter_end hh st.1 st.2.1 st.2.2 (by simp) fun h' he' => hQ h' s.toks fun b o hb e => he' b o (fun h => hb (by simp [h])) e
  self := fun _ _ _ _ st hQ => iter_filter st.1 hQ
end
end Mine
end
section
namespace Mine
open PySem PySem.W PySem.W.X PyProof.Rows PySem.Calls

theorem bind_52 (P : Params) (v : Value) (r : List Value) : bindArgs (fdF P 52) ⟨v :: r, []⟩ = (do let t ← newTuple (v :: r); pure [(n_args, t)]) := by kernel_rfl

/-- entering _platform: its arguments as a tuple -/
theorem enterV {c : Cx} {k : Nat} {A : Around} {s : Shared} {v : Value} {r : List Value} {Q : Value → Shared → Prop} {E : Value → Shared → Prop} (I : SInv c s) (R : Room (k + 1) A) (hz : (v :: r).length ≤ sizeLine)
    (h : ∀ L T s', s.heap.objs.size ≤ T → s.heap.objs.size ≤ L → Bod c (Sees s) L [(n_args, .ref T)] [(T, tupO (v :: r))] s' → Room k (A.deeper (envF c.w.params 52 L)) →
      wpAny c.M (A.deeper (envF c.w.params 52 L)) (execs (bodyF c.w.params 52) (envF c.w.params 52 L)) (fun fl s' => Q (match fl with | .ret v => v | _ => .none) s') (fun _ _ => False) s') :
    wpAny c.M A (call (.ref 52) (v :: r)) Q E s := by
  have hcd : codeIn (KS c.w.params) (fdF c.w.params 52).code (fdF c.w.params 52).qualname = true := by kernel_rfl
  refine wpAny_call ?_
  refine codeAny_call_function (fd := fdF c.w.params 52) (body := bodyF c.w.params 52) R.lim (inK I (fo_52 _)) (fd_52 _) (by kernel_rfl) (by kernel_rfl) (by kernel_rfl) (codeRec_of I.kin hcd) ?_
  rw [bind_52]
  refine wpAny_bind (wpAny_newTuple ?_ hz)
  refine wpAny_pure ?_
  have k0 : Kept s.heap (s.heap.push (tupO (v :: r))) := fun b o e => Heap.get?_push_of_some _ e
  have z0 : (s.heap.push (tupO (v :: r))).objs.size = s.heap.objs.size + 1 := Heap.size_push ..
  have I0 : SInv c { s with heap := s.heap.push (tupO (v :: r)) } := I.keeps (t := s.toks) k0 (by rw [z0]; omega)
  have hcell : ((fdF c.w.params 52).scope.names.all fun x => decide (x.2 ≠ .cell)) = true := by kernel_rfl
  have hloc : ([(n_args, Value.ref s.heap.objs.size)].all fun x => decide ((fdF c.w.params 52).scope.names.lookup x.1 = some .local)) = true := by kernel_rfl
  refine wpAny_newFunctionEnv (fun x hx => of_decide_eq_true (List.all_eq_true.mp hcell x hx)) (fun x hx => of_decide_eq_true (List.all_eq_true.mp hloc x hx)) (fun h₁ hns hsb => ⟨(noLimit_of I0).fresh _ hsb, codeAny_func ?_⟩) (by kernel_rfl)
  change h₁.Ns (s.heap.push (tupO (v :: r))).objs.size _ at hns
  change Heap.SameBut (s.heap.push (tupO (v :: r))).objs.size ((s.heap.push (tupO (v :: r))).push _) h₁ at hsb
  rw [z0] at hns hsb
  have k1 : Kept (s.heap.push (tupO (v :: r))) h₁ := fun b o e => hsb.extBut b o (Nat.ne_of_lt (z0 ▸ Heap.lt_size e)) (Heap.get?_push_of_some _ e)
  have k2 : Kept s.heap h₁ := fun b o e => k1 b o (k0 b o e)
  have hz1 : s.heap.objs.size ≤ h₁.objs.size := Nat.le_trans (Nat.le_succ _) (Nat.le_of_lt hns.lt)
  have fresh : ∀ a, s.heap.objs.size ≤ a → (Sees s).get? a = none := fun a ha => by
    cases e : (Sees s).get? a with
    | none => rfl
    | some o' => exact absurd (Heap.lt_size (of_hideAll _ e)) (Nat.not_lt.mpr ha)
  have B : Bod c (Sees s) (s.heap.objs.size + 1) [(n_args, .ref s.heap.objs.size)] [(s.heap.objs.size, tupO (v :: r))] { s with heap := h₁, toks := s.toks + 1 } := by
    refine ⟨I.keeps k2 hz1, hns, fun b o e => k2 b o (of_hideAll _ e), hide_tabs, fresh _ (Nat.le_succ _), ?_, ?_, ?_, Nat.le_succ_of_le I.size, ?_, by rw [hideAll_size]; exact hz1⟩
    · intro p hp; rw [List.mem_singleton.mp hp]; exact fresh _ (Nat.le_refl _)
    · intro p hp; rw [List.mem_singleton.mp hp]; exact k1 _ _ (Heap.get?_push_size _ rfl)
    · simp
    · intro p hp; rw [List.mem_singleton.mp hp]; exact I.size
  have q := h (s.heap.objs.size + 1) s.heap.objs.size _ (Nat.le_refl _) (Nat.le_succ _) B (R.deeper _)
  have fin : ∀ (Lx : Addr), Lx = s.heap.objs.size + 1 → wpAny c.M (A.deeper (envF c.w.params 52 Lx)) (execs (bodyF c.w.params 52) (envF c.w.params 52 Lx)) (fun fl s' => Q (match fl with | .ret v => v | _ => .none) s') (fun _ _ => False) { s with heap := h₁, toks := s.toks + 1 } := by
    rintro Lx rfl; exact q
  exact wpAny_mono (fin _ z0) (fun fl s' q => q) (fun _ _ q => q.elim)

theorem genEnd1 {c : Cx} {s1 s5 s6 : Shared} {a : Addr} {wr : List Addr} {G : Array GenState → Array GenState → Prop}
    (I : SInv c s1) (Ev5 : Ev c s1 s5) (hwr : ∀ b ∈ wr, s1.heap.objs.size ≤ b) (hG : ∀ x y, G x y → AllBare x → AllBare y)
    (hz5 : s5.heap.objs.size = a + 1) (haw : a ∉ wr) (hga : ∃ o, s5.heap.get? a = some o) (hmh : ∀ b o, b ∉ wr → s5.heap.get? b = some o → s6.heap.get? b = some o) (hmg : G s5.gens s6.gens) (hmo : s6.os = s5.os) : Ev c s1 s6 := by
  have z6 : s5.heap.objs.size ≤ s6.heap.objs.size := by
    obtain ⟨o, ho⟩ := hga
    rw [hz5]
    exact Heap.lt_size (hmh a o haw ho)
  have I6 : SInv c s6 := Ev5.inv.low (fun b o hb e => hmh b o (fun q => absurd (Nat.le_trans I.size (hwr b q)) (Nat.not_le.mpr hb)) e) z6 (hG _ _ hmg Ev5.inv.bare) hmo
  exact ⟨I6, fun b o e hb => hmh b o (fun q => absurd (Heap.lt_size e) (Nat.not_lt.mpr (hwr b q))) (Ev5.keep b o e hb), Nat.le_trans Ev5.size z6⟩

/-- a generator expression over filter(len, a tuple of texts) -/
theorem genStrip {c : Cx} {k : Nat} {A : Around} {E : Value → Shared → Prop} {s : Shared} {L : Addr} {items : Array Value} {xs : List Str}
    {elt iter : Expr} {x : Str} {px pos : Pos} {scope : Scope} {Q : Value → Shared → Prop} (F : Nat → Value → Prop)
    (I0 : SInv c s) (R : Room k A) (hgl : (envF c.w.params 52 L).globals = 3) (hcode : (envF c.w.params 52 L).code = .ref 51)
    (hxs : StrsAre items.toList xs) (h0 : ∀ x ∈ xs, x.length ≠ 0 ∧ x.length ≤ 1000000)
    (hco : scope.isCoroutine = false) (hclos : closureFor scope (envF c.w.params 52 L) = pure []) (hcell : ∀ y ∈ scope.names, y.2 ≠ .cell) (hd0 : scope.names.lookup (".0" : Str) = some NameKind.local)
    (hx : scope.names.lookup x = some .local) (hkind : scope.kind = .function)
    (hiter : ∀ (K : Value → Shared → Prop) (E' : Value → Shared → Prop), (∀ f it T s₁, SInv c s₁ → s.heap.objs.size ≤ f → s.heap.objs.size ≤ it → s₁.heap.get? f = some (filO it) → s₁.heap.IsTupleIter it T 0 → s₁.heap.IsTuple T items → 270 ≤ T → f ≠ it → T ≠ it → Ev c s s₁ → (∀ (A' : Around) (E' : Value → Shared → Prop) (i : Nat) (y : Str) (t : Tok) (C : Addr) (code : Value) (s₂ : Shared) (m₂ : Str → Option Value), A'.handled = none → xs[i]? = some y → s₂.heap.Ns C m₂ → m₂ x = some (.str y t) →
        (KS c.w.params).In s₂.heap → wpAny c.M A' (eval elt (genEnv scope [] C code 0 (envF c.w.params 52 L))) (fun y s₃ => F i y ∧ Keeps s₂ s₃) E' s₂) → (∀ a s5 fp wr G St, Ev c s s5 → WalksS prg c.w A.in4 a fp wr G xs.length F St → St 0 s5 → (∀ b ∈ fp, b < s5.heap.objs.size) → (∀ b ∈ wr, s.heap.objs.size ≤ b) → (∀ x y, G x y → AllBare x → AllBare y) →
        s5.heap.objs.size = a + 1 → a ∉ wr → (∃ o, s5.heap.get? a = some o) → (∀ i s', St i s' → s'.TypeIs (.ref a) "generator") → a ∈ fp → Q (.ref a) s5) → K (.ref f) s₁) → wpAny c.M A (eval iter (envF c.w.params 52 L)) K E' s)
    (hs : ∀ x, genFold iter (envF c.w.params 52 L) x = pure x) :
    wpAny c.M A (eval (.GeneratorExp elt [⟨.Name x px, iter, [], 0⟩] scope pos) (envF c.w.params 52 L)) Q E s := by
  refine wpAny_GeneratorExp_walksQ (cl := []) R.handled hco hclos hcell hd0 hx hkind R.lim (hiter _ _ fun f it T s₁ I1 hfs his hf hit hT hTl hfi hTi Ev1 helt h => ?_) hs
  refine iter_filter hf ?_
  refine ⟨noLimit_of I1, ?_⟩
  refine gen_code I1 (.inl ⟨rfl, rfl⟩) hcode fun code s3 I3 k3 z3 g3 => ?_
  rw [hgl]
  refine builtinsFor_K I3 ?_
  have hs270 : 270 ≤ s.heap.objs.size := I0.size
  have nT : ∀ b, 270 ≤ b → b ≠ 47 := fun b hb e => absurd hb (by rw [e]; decide)
  have hf3 : s3.heap.get? f = some (filO it) := k3 _ _ (nT _ (Nat.le_trans hs270 hfs)) hf
  obtain ⟨oi, hoi, hci, hdi⟩ := hit
  have hoi3 := k3 _ _ (nT _ (Nat.le_trans hs270 his)) hoi
  obtain ⟨oT, hoT, hcT, hdT⟩ := hT
  have hoT3 := k3 _ _ (nT _ hTl) hoT
  have hlen : items.size = xs.length := by have := strsAre_length hxs; rwa [Array.length_toList] at this
  have hPz : (passing (fun _ => true) items.size 0).length = xs.length := by rw [passing_all, List.length_range, hlen]
  refine ⟨f, _, _, items.size, _, _, fun _ => true, F, rfl, fun A' hA => walks_filter hA f it T hfi hTi items xs hxs h0, ⟨hf3, ⟨oi, hoi3, hci, hdi⟩, ⟨oT, hoT3, hcT, hdT⟩⟩, ?_, noLimit_of I3, ?_, ?_, ?_⟩
  · intro b hb
    simp only [List.mem_cons, List.not_mem_nil, or_false] at hb
    rcases hb with rfl | rfl | rfl
    · exact Heap.lt_size hf3
    · exact Heap.lt_size hoi3
    · exact Heap.lt_size hoT3
  · intro hm
    rw [List.mem_singleton] at hm
    exact absurd (hm ▸ Nat.le_trans hs270 his) (by decide)
  · intro href hh
    refine ⟨?_, ?_⟩
    · intro A' E' i v s₂ m₂ hA hv hn ha hk
      exact wpAny_pure ⟨rfl, s₂.heap, s₂.toks, rfl, fun _ _ e => e⟩
    · intro A' E' i v s₂ m₂ hA hv hp hn ha hk
      obtain ⟨y, t, hy, rfl⟩ := strsAre_back hxs i v (by rw [Array.getElem?_toList]; exact hv)
      refine helt A' E' i y t _ code s₂ m₂ hA hy hn ha ?_
      intro b o q
      have hlt : b < s3.heap.objs.size := Nat.lt_of_lt_of_le (KS_lt q) I3.size
      refine hk b (List.mem_range.mpr hlt) (fun hm => ?_) o (hh b o (I3.kin b o q))
      rw [List.mem_singleton.mp hm] at q
      exact absurd (KS_lt q) (Nat.not_lt.mpr (Nat.le_trans hs270 his))
  · intro a h5 tk gs hgs ha5 hz5 hk5 W hat
    rw [hPz] at W
    have I5 : SInv c { s3 with gens := s3.gens.push gs, toks := tk, heap := h5 } := I3.low (fun b o _ e => hk5 b o e) (by show s3.heap.objs.size ≤ h5.objs.size; rw [hz5]; lia) (I3.bare.push hgs) rfl
    have hga : ∃ o, h5.get? a = some o := by obtain ⟨⟨o, _, _, e, _⟩, _⟩ := hat; exact ⟨o, e⟩
    have hPt : (47 : Addr) ∈ tabs := by decide
    have z13 : s.heap.objs.size ≤ s3.heap.objs.size := Nat.le_trans Ev1.size z3
    refine h a _ _ _ _ _ ⟨I5, fun b o e hb => hk5 b o (k3 b o (fun q => hb (q ▸ hPt)) (Ev1.keep b o e hb)), ?_⟩ ⟨W.sub, W.grefl, W.gtrans, W.frame, fun i s' Q' E' hi st hq => W.item i s' Q' E' hi st fun v s'' hv => hq v s'' ?_, W.done, W.self⟩ hat ?_ ?_ ?_ hz5 ?_ hga (fun i s' st => st.1.typeIs) List.mem_cons_self
    · show s.heap.objs.size ≤ h5.objs.size
      rw [hz5]; exact Nat.le_trans z13 (Nat.le_of_lt (Nat.lt_succ_of_lt ha5))
    · obtain ⟨j, hj, hF⟩ := hv
      rw [passing_all] at hj
      have : j = i := by
        have := List.getElem?_eq_some_iff.mp hj
        obtain ⟨q, e⟩ := this
        rw [List.getElem_range] at e; exact e.symm
      subst this; exact hF
    · intro b hb
      show b < h5.objs.size
      rw [hz5]
      rcases List.mem_cons.mp hb with rfl | hb
      · exact Nat.lt_succ_self _
      · rcases List.mem_cons.mp hb with rfl | hb
        · exact Nat.lt_succ_of_lt ha5
        · exact Nat.lt_succ_of_lt (Nat.lt_trans (List.mem_range.mp hb) ha5)
    · intro b hb
      rcases List.mem_cons.mp hb with rfl | hb
      · exact z13
      · rw [List.mem_singleton.mp hb]; exact his
    · intro x y hxy hb
      exact hb.moved hxy
    · intro hm
      rcases List.mem_cons.mp hm with e | hm
      · exact Nat.lt_irrefl _ (e ▸ ha5)
      · have e := List.mem_singleton.mp hm
        exact Nat.lt_irrefl _ (Nat.lt_trans (e ▸ ha5) (Heap.lt_size hoi3))
end Mine
end
section
namespace Mine
open PySem PySem.W PyProof.Rows PySem.StrLaws Builtin Builtin.Str

/-- y replaced by z, from the left; k signs are still to be skipped -/
noncomputable def replG (y z : List Nat) : Nat → List Nat → List Nat
  | _, [] => []
  | 0, c :: r => if y.isPrefixOf (c :: r) then z ++ replG y z (y.length - 1) r else c :: replG y z 0 r
  | k + 1, _ :: r => replG y z k r

theorem replG_skip (y z : List Nat) : ∀ (k : Nat) (l : List Nat), replG y z k l = replG y z 0 (l.drop k)
  | 0, l => by rw [List.drop_zero]
  | k + 1, [] => by simp [replG]
  | k + 1, c :: r => by
    show replG y z k r = _
    rw [replG_skip y z k r, List.drop_succ_cons]

theorem replG_len (y z : List Nat) (h : z.length ≤ y.length) (hy : 1 ≤ y.length) : ∀ (n : Nat) (l : List Nat), l.length = n → (replG y z 0 l).length ≤ l.length := by
  intro n
  induction n using Nat.strongRecOn with
  | _ n ih =>
    intro l hl
    cases l with
    | nil => exact Nat.le_refl _
    | cons c r =>
      show (if y.isPrefixOf (c :: r) then z ++ replG y z (y.length - 1) r else c :: replG y z 0 r).length ≤ _
      simp only [List.length_cons] at hl
      split
      · rename_i hp
        have hpre : y <+: c :: r := List.isPrefixOf_iff_prefix.mp hp
        have h1 := hpre.length_le
        simp only [List.length_cons] at h1
        rw [replG_skip]
        have h2 := ih (r.drop (y.length - 1)).length (by rw [List.length_drop]; lia) _ rfl
        rw [List.length_drop] at h2
        simp only [List.length_append, List.length_cons]
        lia
      · have h2 := ih r.length (by lia) r rfl
        simp only [List.length_cons]
        lia

theorem at_iff (x y : Str) (k : Nat) (h : k ≤ x.length) : At x y x.length k ↔ y.cps.toList.isPrefixOf (x.cps.toList.drop k) = true := by
  have hx : x.length = x.cps.toList.length := by show x.cps.size = _; simp
  have hy : y.length = y.cps.toList.length := by show y.cps.size = _; simp
  rw [List.isPrefixOf_iff_prefix]
  constructor
  · rintro ⟨h1, h2⟩
    have h2 : subAt x y k = true := h2
    rw [subAt_eq, beq_iff_eq] at h2
    rw [← h2]
    exact List.take_prefix _ _
  · intro hp
    have hl := hp.length_le
    rw [List.length_drop] at hl
    refine ⟨by lia, ?_⟩
    show subAt x y k = true
    rw [subAt_eq, beq_iff_eq, hy]
    exact (List.prefix_iff_eq_take.mp hp).symm

theorem repl_none (x y : Str) (z : List Nat) : ∀ (n a : Nat), x.length - a = n → a ≤ x.length → (∀ k, a ≤ k → ¬ At x y x.length k) → replG y.cps.toList z 0 (x.cps.toList.drop a) = x.cps.toList.drop a
  | 0, a, hn, ha, h => by
    have hx : x.length = x.cps.toList.length := by show x.cps.size = _; simp
    have : x.cps.toList.drop a = [] := List.drop_eq_nil_of_le (by lia)
    rw [this]; rfl
  | n + 1, a, hn, ha, h => by
    have hx : x.length = x.cps.toList.length := by show x.cps.size = _; simp
    have hlt : a < x.cps.toList.length := by lia
    have ih := repl_none x y z n (a + 1) (by lia) (by lia) fun k hk => h k (by lia)
    have hno := h a (Nat.le_refl _)
    rw [at_iff x y a ha] at hno
    rw [List.drop_eq_getElem_cons hlt] at hno ⊢
    show (if y.cps.toList.isPrefixOf (_ :: _) then _ else _) = _
    rw [if_neg hno, ih]

theorem repl_gap (x y : Str) (z : List Nat) : ∀ (n a c : Nat), c - a = n → a ≤ c → c ≤ x.length → (∀ k, a ≤ k → k < c → ¬ At x y x.length k) →
    replG y.cps.toList z 0 (x.cps.toList.drop a) = (x.cps.toList.drop a).take (c - a) ++ replG y.cps.toList z 0 (x.cps.toList.drop c)
  | 0, a, c, hn, ha, hc, h => by
    have : a = c := by lia
    subst this
    simp
  | n + 1, a, c, hn, ha, hc, h => by
    have hx : x.length = x.cps.toList.length := by show x.cps.size = _; simp
    have hlt : a < x.cps.toList.length := by lia
    have ih := repl_gap x y z n (a + 1) c (by lia) (by lia) hc fun k hk => h k (by lia)
    have hno := h a (Nat.le_refl _) (by lia)
    rw [at_iff x y a (by lia)] at hno
    have e : c - a = (c - (a + 1)) + 1 := by lia
    rw [List.drop_eq_getElem_cons hlt] at hno ⊢
    rw [e, List.take_succ_cons]
    show (if y.cps.toList.isPrefixOf (_ :: _) then _ else _) = _
    rw [if_neg hno, ih]
    rfl

theorem join_cons_toList (z p : Str) (q : Str) (r : List Str) : (Str.join z (p :: q :: r)).cps.toList = p.cps.toList ++ z.cps.toList ++ (Str.join z (q :: r)).cps.toList := by
  show (p ++ z ++ Str.join z (q :: r)).cps.toList = _
  simp only [Str.cps_append, Array.toList_append]

theorem repl_chain (x y z : Str) (hw : 1 ≤ y.length) : ∀ (cuts : List Nat) (a f : Nat), a ≤ x.length → ChainG x y x.length a cuts f → (∀ k, f ≤ k → ¬ At x y x.length k) →
    (Str.join z (partsFrom x y.length a cuts)).cps.toList = replG y.cps.toList z.cps.toList 0 (x.cps.toList.drop a)
  | [], a, f, ha, h, hn => by
    have e : f = a := h
    subst e
    rw [repl_none x y _ _ f rfl ha hn]
    show (strSub x f x.length).cps.toList = _
    rw [strSub_toList]
    have hx : x.length = x.cps.toList.length := by show x.cps.size = _; simp
    exact List.take_of_length_le (by rw [List.length_drop]; lia)
  | d :: r, a, f, ha, h, hn => by
    obtain ⟨h1, h2, h3, h4⟩ := h
    have hx : x.length = x.cps.toList.length := by show x.cps.size = _; simp
    have hd : d + y.length ≤ x.length := h2.1
    have ih := repl_chain x y z hw r (d + y.length) f hd h4 hn
    rw [repl_gap x y _ _ a d rfl h1 (by lia) h3]
    have hne := partsFrom_ne x y.length (d + y.length) r
    obtain ⟨p, q, hpq⟩ := hne
    show (Str.join z (strSub x a d :: partsFrom x y.length (d + y.length) r)).cps.toList = _
    rw [hpq, join_cons_toList, ← hpq, ih, strSub_toList]
    have hp := (at_iff x y d (by lia)).mp h2
    have hlt : d < x.cps.toList.length := by lia
    rw [List.append_assoc]
    congr 1
    rw [List.drop_eq_getElem_cons hlt] at hp ⊢
    show _ = (if y.cps.toList.isPrefixOf (_ :: _) then _ else _)
    rw [if_pos hp, replG_skip _ _ (y.cps.toList.length - 1), List.drop_drop]
    have hy : y.length = y.cps.toList.length := by show y.cps.size = _; simp
    have e : d + 1 + (y.cps.toList.length - 1) = d + y.length := by lia
    rw [e]

theorem replace_eq (x y z : Str) (hw : 1 ≤ y.length) : (Txt.replace x y z).cps.toList = replG y.cps.toList z.cps.toList 0 x.cps.toList := by
  obtain ⟨f, hG, hn⟩ := occ_tight x y hw
  unfold Txt.replace
  have h0 : (y.length == 0) = false := by
    have : y.length ≠ 0 := by lia
    simpa using this
  rw [h0, Bool.false_and, Bool.or_false]
  split
  · rename_i he
    have e0 : occurrences x y 0 x.length (x.length + 1) = [] := List.isEmpty_iff.mp he
    rw [e0] at hG
    have ef : f = 0 := hG
    subst ef
    have := repl_none x y z.cps.toList x.length 0 (by lia) (Nat.zero_le _) hn
    rw [List.drop_zero] at this
    exact this.symm
  · rw [glued_eq_join, partsBetween_eq]
    have := repl_chain x y z hw _ 0 f (Nat.zero_le _) hG hn
    rw [List.drop_zero] at this
    exact this

theorem replace_len (x y z : Str) (hw : 1 ≤ y.length) (hz : z.length ≤ y.length) : (Txt.replace x y z).length ≤ x.length := by
  have e := replace_eq x y z hw
  have h := replG_len y.cps.toList z.cps.toList (by simpa [Str.length] using hz) (by simpa [Str.length] using hw) _ x.cps.toList rfl
  rw [← e] at h
  simpa [Str.length] using h
end Mine
end
section
namespace Mine
open PySem PySem.W PySem.W.X PyProof.Rows PySem.Calls

theorem look_dup {x y : Str} {v w : Value} {l : List (Str × Value)} : List.lookup x ((y, v) :: (y, w) :: l) = List.lookup x ((y, v) :: l) := by
  simp only [List.lookup_cons]
  cases (x == y) <;> rfl
theorem Bod.undup {c : Cx} {he : Heap} {L : Addr} {m : List (Str × Value)} {mu : List (Addr × Obj)} {s : Shared} {y : Str} {v w : Value} (B : Bod c he L ((y, v) :: (y, w) :: m) mu s) : Bod c he L ((y, v) :: m) mu s :=
  B.ren fun x => look_dup

/-- platform = platform.replace(y, z) -/
theorem rep_stmt {c : Cx} {A : Around} {E : Value → Shared → Prop} {he : Heap} {L : Addr} {m : List (Str × Value)} {mu : List (Addr × Obj)} {s : Shared} {x p y z : Str} {t : Tok} {k1 k2 : Nat} {p1 p2 p3 p4 p5 p6 pp : Pos} {Q : Flow → Shared → Prop}
    (B : Bod c he L ((n_platform, .str p t) :: m) mu s) (h1 : 1 ≤ s.toks) (hyz : (y == z) = false) (hz : z.length ≤ 14) (hp : p.length ≤ 1000000) (hline : (p2.endLine == p5.line) = true) (hxl : (envF c.w.params 52 L).kindOf x = some .local)
    (h : ∀ t' s', Bod c he L ((x, .str (Txt.replace p y z) t') :: (n_platform, .str p t) :: m) mu s' → 1 ≤ s'.toks → Q .next s') :
    wpAny c.M A (exec (.Assign [.Name x pp] (.Call (.Attribute (.Name n_platform p1) n_replace p2) [.Constant (.str y) k1 p3, .Constant (.str z) k2 p4] [] p5) p6) (envF c.w.params 52 L)) Q E s := by
  refine wpAny_with_toks (n := 1) h1 ?_
  refine wpAny_Assign_Name ?_
  refine c_attr ?_ rfl rfl rfl hline
  refine b_name B (envF_locals _ _ _) (by rfl) (by kernel_rfl) (by kernel_rfl) (by kernel_rfl) ?_
  with_reducible refine ms_replace ?_
  refine cw_builtin ?_
  refine a_cons ?_
  refine wpAny_Constant_str ?_
  refine a_cons ?_
  refine wpAny_Constant_str ?_
  refine a_nil ?_
  have B2 := B.toks (s.toks + 1 + 1)
  refine SC.replaceW (by show s.toks ≠ 0; lia) (by show s.toks + 1 ≠ 0; lia) (by show s.toks ≠ s.toks + 1; lia) hyz (by lia) hz ?_
  intro t' k
  have B3 := B2.toks k
  refine b_store B3 (envF_locals _ _ _) (by kernel_rfl) hxl ?_
  intro s4 B4 h4
  exact h t' s4 B4 h4

noncomputable def platA (xs : List Str) : Str :=
  Txt.replace (Txt.replace (Txt.replace (Txt.replace (Txt.replace (Txt.replace (Txt.replace (Txt.replace (Txt.replace (Txt.join t_hy (xs.map Txt.strip)) t_blank t_us) t_slash t_hy) t_bslash t_hy) t_colon t_hy) t_semi t_hy) t_quote t_hy) t_lpar t_hy) t_rpar t_hy) t_unknown t_empty
noncomputable def platB (xs : List Str) : Str := Txt.replace (platA xs) t_hyhy t_hy

theorem strip_len (x : Str) : (Txt.strip x).length ≤ x.length := by
  unfold Txt.strip Txt.stripBy
  split
  · exact Nat.le_refl _
  · show ((PySem.stripped _ _ _ x).cps).size ≤ _
    unfold PySem.stripped
    rw [← Array.length_toList, StrLaws.strSub_toList, List.length_take, List.length_drop]
    have : x.cps.toList.length = x.length := Array.length_toList
    lia

theorem join_len (sep : Str) (ts : List Str) : (Txt.join sep ts).length ≤ (ts.map (·.length)).sum + ts.length * sep.length := by
  have e : Txt.join sep ts = Str.join sep ts := by
    cases ts with
    | nil => rfl
    | cons a r => exact StrLaws.glued_eq_join sep (a :: r)
  rw [e]
  exact StrLaws.join_length_le sep ts

theorem plat_spec {c : Cx} {k : Nat} {A : Around} {s : Shared} {v : Value} {r : List Value} {xs : List Str} {Q : Value → Shared → Prop} {E : Value → Shared → Prop} (I : SInv c s) (R : Room (k + 1) A)
    (hxs : StrsAre (v :: r) xs) (hn : xs.length ≤ 100) (h0 : ∀ x ∈ xs, x.length ≠ 0 ∧ x.length ≤ 5000)
    (hB : Txt.replace (platB xs) t_hyhy t_hy = platB xs) (hlast : ∃ ch, (seqIndex? (-1) (platB xs).length).bind ((platB xs).cps[·]?) = some ch ∧ ch ≠ 45)
    (h : ∀ t' s', Ev c s s' → Q (.str (platB xs) t') s') : wpAny c.M A (call (.ref 52) (v :: r)) Q E s := by
  have hvr : (v :: r).length ≤ 100 := by rw [strsAre_length hxs]; exact hn
  refine enterV I R (by rw [sizeLine_val]; lia) ?_
  intro L T s1 hTs hLs B R'
  have hzL : (Sees s).objs.size ≤ L := by rw [hideAll_size]; exact hLs
  refine sK ?_
  refine wpAny_Assign_Name ?_
  refine c_attr ?_
  refine wpAny_Constant_str ?_
  have B1 := B.toks (s1.toks + 1)
  have htk1 : 1 ≤ ({ s1 with toks := s1.toks + 1 } : Shared).toks := Nat.succ_le_succ (Nat.zero_le _)
  with_reducible refine ms_join ?_
  refine wpAny_with_toks (n := 1) htk1 ?_
  refine cw_builtin ?_
  refine a_cons ?_
  generalize hs1' : ({ s1 with toks := s1.toks + 1 } : Shared) = s1' at *
  refine genStrip (items := (v :: r).toArray) (xs := xs) (fun i y => ∃ t, y = .str (Txt.strip (xs.getD i t_empty)) t ∧ i < xs.length) B1.inv R' (by kernel_rfl) (by kernel_rfl) hxs (fun x hx => ⟨(h0 x hx).1, by have := (h0 x hx).2; lia⟩) rfl (by kernel_rfl) (by decide) (by decide) (by decide) rfl (fun K1 E1 hK1 => ?_) (by intro _; rfl)
  refine c_name ?_
  refine b_glob B1 (gv_filter _) (by kernel_rfl) (by kernel_rfl) (by kernel_rfl) (by kernel_rfl) (by kernel_rfl) ?_
  refine cw_type ?_
  refine a_cons ?_
  refine b_glob B1 (gv_len _) (by kernel_rfl) (by kernel_rfl) (by kernel_rfl) (by kernel_rfl) (by kernel_rfl) ?_
  refine a_cons ?_
  refine b_name B1 (envF_locals _ _ _) (by rfl) (by kernel_rfl) (by kernel_rfl) (by kernel_rfl) ?_
  refine a_nil ?_
  refine call_filter (items := (v :: r).toArray) ⟨_, B1.own (T, tupO (v :: r)) (List.mem_singleton.mpr rfl), rfl, _, rfl⟩ ?_
  have zz : (s1'.heap.push (tiO T 0)).objs.size = s1'.heap.objs.size + 1 := Heap.size_push ..
  have kk : Kept s1'.heap ((s1'.heap.push (tiO T 0)).push (filO s1'.heap.objs.size)) := fun b o e => Heap.get?_push_of_some _ (Heap.get?_push_of_some _ e)
  have z2 : s1'.heap.objs.size ≤ ((s1'.heap.push (tiO T 0)).push (filO s1'.heap.objs.size)).objs.size := by rw [Heap.size_push, zz]; lia
  have gT := B1.own (T, tupO (v :: r)) (List.mem_singleton.mpr rfl)
  have I2 : SInv c { s1' with heap := (s1'.heap.push (tiO T 0)).push (filO s1'.heap.objs.size) } := B1.inv.keeps (t := s1'.toks) kk z2
  refine hK1 (s1'.heap.objs.size + 1) s1'.heap.objs.size T _ I2 (Nat.le_succ _) (Nat.le_refl _) ?_ ⟨_, Heap.get?_push_of_some _ (Heap.get?_push_size _ rfl), rfl, rfl⟩ ⟨_, kk _ _ gT, rfl, _, rfl⟩ (B1.lowM (T, tupO (v :: r)) (List.mem_singleton.mpr rfl)) (Nat.succ_ne_self _) (Nat.ne_of_lt (Heap.lt_size gT)) ⟨I2, fun b o e _ => kk b o e, z2⟩ ?_ ?_
  · rw [← zz]; exact Heap.get?_push_size _ rfl
  · intro A' E' i y t C code s₂ m₂ hA hy hn' ha X
    refine c_attr ?_
    refine wpAny_Name (wpAny_loadName_local (m := m₂) (by rfl) (by kernel_rfl) hn' ha ?_) (by kernel_rfl)
    with_reducible refine ms_strip ?_
    refine cw_builtin0 ?_
    have hyz := (h0 y (List.mem_of_getElem? hy)).2
    refine SC.strip ?_ (by rw [sizeLine_val]; lia)
    intro t' k'
    refine ⟨⟨t', ?_, (List.getElem?_eq_some_iff.mp hy).1⟩, s₂.heap, k', rfl, fun _ _ e => e⟩
    rw [List.getD_eq_getElem?_getD, hy]; rfl
  · intro a s5 fp wr G St Ev5 Wk hst hfp hwr hG hz5 haw hga hT ha
    refine a_nil ?_
    have W1 := Wk.in4_2
    refine SC.joinGen (n := xs.length) W1 hT hst hfp ha (fun i v hv => let ⟨t, e, _⟩ := hv; ⟨_, t, e⟩) ?_ (by rw [sizeLine_val]; lia)
    intro s6 l hm hi
    have el : l.map (·.1) = xs.map Txt.strip := by
      have hl : l.length = xs.length := by have := hi.1; simpa [strValues] using this
      refine List.ext_getElem? fun j => ?_
      rw [List.getElem?_map, List.getElem?_map]
      by_cases hj : j < l.length
      · rw [List.getElem?_eq_getElem hj, List.getElem?_eq_getElem (hl ▸ hj)]
        obtain ⟨t9, e9, _⟩ := hi.2 j (.str l[j].1 l[j].2) (by simp [strValues, hj])
        rw [List.getD_eq_getElem?_getD, List.getElem?_eq_getElem (hl ▸ hj)] at e9
        have := (Value.str.inj e9).1
        exact congrArg some this
      · rw [List.getElem?_eq_none (Nat.le_of_not_lt hj), List.getElem?_eq_none (Nat.le_of_not_lt (hl ▸ hj))]; rfl
    rw [el]
    have hsum : ∀ ys : List Str, (∀ x ∈ ys, x.length ≤ 5000) → ((ys.map Txt.strip).map (·.length)).sum ≤ ys.length * 5000 := by
      intro ys
      induction ys with
      | nil => intro _; exact Nat.zero_le _
      | cons y r ih =>
        intro hh
        have h1 := ih fun x hx => hh x (List.mem_cons_of_mem _ hx)
        have h2 := strip_len y
        have h3 := hh y (List.mem_cons_self ..)
        simp only [List.map_cons, List.sum_cons, List.length_cons] at h1 ⊢
        lia
    have hs := hsum xs fun x hx => (h0 x hx).2
    refine ⟨joinOk_of ?_, fun t' k' h6 => ?_⟩
    · rw [List.length_map]
      show _ + xs.length * 1 ≤ _
      lia
    have E6 : Ev c s1' { s6 with toks := k' } := genEnd1 B1.inv Ev5 hwr hG hz5 haw hga hm.heap hm.gens hm.os
    have B6 := B1.after E6
    refine wpAny_with_toks (n := 1) h6 ?_
    refine b_store B6 (envF_locals _ _ _) (by kernel_rfl) (by kernel_rfl) ?_
    intro s7 B7 h7
    dsimp only [seqK]
    have hj0 : (Txt.join t_hy (xs.map Txt.strip)).length ≤ 1000000 := by
      have := join_len t_hy (xs.map Txt.strip)
      rw [List.length_map] at this
      have e1 : t_hy.length = 1 := rfl
      rw [e1] at this
      lia
    clear hs hsum el hi hm B6 E6 Ev5 Wk W1 hst hfp hwr hG hga hT ha kk gT I2
    refine sK ?_
    refine rep_stmt B7 h7 (by decide) (by decide) hj0 rfl (by kernel_rfl) ?_
    intro t8 s8 B8 h8
    dsimp only [seqK]
    have B8 := B8.undup
    have hj1 : (Txt.replace (Txt.join t_hy (xs.map Txt.strip)) t_blank t_us).length ≤ 1000000 := Nat.le_trans (replace_len _ _ _ (by decide) (by decide)) hj0
    generalize eq1 : Txt.replace (Txt.join t_hy (xs.map Txt.strip)) t_blank t_us = q1 at B8 hj1
    clear B7
    refine sK ?_
    refine rep_stmt B8 h8 (by decide) (by decide) hj1 rfl (by kernel_rfl) ?_
    intro t9 s9 B9 h9
    dsimp only [seqK]
    have B9 := B9.undup
    have hj2 : (Txt.replace (q1) t_slash t_hy).length ≤ 1000000 := Nat.le_trans (replace_len _ _ _ (by decide) (by decide)) hj1
    generalize eq2 : Txt.replace (q1) t_slash t_hy = q2 at B9 hj2
    clear B8
    refine sK ?_
    refine rep_stmt B9 h9 (by decide) (by decide) hj2 rfl (by kernel_rfl) ?_
    intro t10 s10 B10 h10
    dsimp only [seqK]
    have B10 := B10.undup
    have hj3 : (Txt.replace (q2) t_bslash t_hy).length ≤ 1000000 := Nat.le_trans (replace_len _ _ _ (by decide) (by decide)) hj2
    generalize eq3 : Txt.replace (q2) t_bslash t_hy = q3 at B10 hj3
    clear B9
    refine sK ?_
    refine rep_stmt B10 h10 (by decide) (by decide) hj3 rfl (by kernel_rfl) ?_
    intro t11 s11 B11 h11
    dsimp only [seqK]
    have B11 := B11.undup
    have hj4 : (Txt.replace (q3) t_colon t_hy).length ≤ 1000000 := Nat.le_trans (replace_len _ _ _ (by decide) (by decide)) hj3
    generalize eq4 : Txt.replace (q3) t_colon t_hy = q4 at B11 hj4
    clear B10
    refine sK ?_
    refine rep_stmt B11 h11 (by decide) (by decide) hj4 rfl (by kernel_rfl) ?_
    intro t12 s12 B12 h12
    dsimp only [seqK]
    have B12 := B12.undup
    have hj5 : (Txt.replace (q4) t_semi t_hy).length ≤ 1000000 := Nat.le_trans (replace_len _ _ _ (by decide) (by decide)) hj4
    generalize eq5 : Txt.replace (q4) t_semi t_hy = q5 at B12 hj5
    clear B11
    refine sK ?_
    refine rep_stmt B12 h12 (by decide) (by decide) hj5 rfl (by kernel_rfl) ?_
    intro t13 s13 B13 h13
    dsimp only [seqK]
    have B13 := B13.undup
    have hj6 : (Txt.replace (q5) t_quote t_hy).length ≤ 1000000 := Nat.le_trans (replace_len _ _ _ (by decide) (by decide)) hj5
    generalize eq6 : Txt.replace (q5) t_quote t_hy = q6 at B13 hj6
    clear B12
    refine sK ?_
    refine rep_stmt B13 h13 (by decide) (by decide) hj6 rfl (by kernel_rfl) ?_
    intro t14 s14 B14 h14
    dsimp only [seqK]
    have B14 := B14.undup
    have hj7 : (Txt.replace (q6) t_lpar t_hy).length ≤ 1000000 := Nat.le_trans (replace_len _ _ _ (by decide) (by decide)) hj6
    generalize eq7 : Txt.replace (q6) t_lpar t_hy = q7 at B14 hj7
    clear B13
    refine sK ?_
    refine rep_stmt B14 h14 (by decide) (by decide) hj7 rfl (by kernel_rfl) ?_
    intro t15 s15 B15 h15
    dsimp only [seqK]
    have B15 := B15.undup
    have hj8 : (Txt.replace (q7) t_rpar t_hy).length ≤ 1000000 := Nat.le_trans (replace_len _ _ _ (by decide) (by decide)) hj7
    generalize eq8 : Txt.replace (q7) t_rpar t_hy = q8 at B15 hj8
    clear B14
    refine sK ?_
    refine rep_stmt B15 h15 (by decide) (by decide) hj8 rfl (by kernel_rfl) ?_
    intro t16 s16 B16 h16
    dsimp only [seqK]
    have B16 := B16.undup
    have hj9 : (Txt.replace (q8) t_unknown t_empty).length ≤ 1000000 := Nat.le_trans (replace_len _ _ _ (by decide) (by decide)) hj8
    generalize eq9 : Txt.replace (q8) t_unknown t_empty = q9 at B16 hj9
    clear B15
    have eA : platA xs = q9 := by rw [← eq9, ← eq8, ← eq7, ← eq6, ← eq5, ← eq4, ← eq3, ← eq2, ← eq1]; rfl
    have eB : platB xs = Txt.replace q9 t_hyhy t_hy := by unfold platB; rw [eA]
    have hjB : (platB xs).length ≤ 1000000 := by rw [eB]; exact Nat.le_trans (replace_len _ _ _ (by decide) (by decide)) hj9
    refine sK ?_
    refine wpAny_While ?_
    refine codeAny_whileLoop (fun n s' => ∃ p t m, p.length ≤ 1000000 ∧ Txt.replace p t_hyhy t_hy = platB xs ∧ (n = 0 → p = platB xs) ∧ m.lookup n_platform = some (.str p t) ∧ 1 ≤ s'.toks ∧ Bod c (Sees s) L ((n_platform, .str p t) :: m) [(T, tupO (v :: r))] s') ?_ 1
      ⟨q9, t16, _, hj9, eB.symm, fun e => absurd e (by decide), by rfl, h16, B16.ren fun x => look_dup.symm⟩
    intro n s20 zz1
    refine hG fun zP zK => ?_
    obtain ⟨p, tp, m, hp, hrep, hn0, hlk, h20, B20⟩ := zz1
    refine zK ?_
    refine wpAny_isTrue_value ?_
    refine wpAny_Constant_bool ?_
    refine b_bool ?_
    refine (if_pos rfl).mpr ?_
    refine sK ?_
    refine rep_stmt B20 h20 (by decide) (by decide) hp rfl (by kernel_rfl) ?_
    intro t21 s21 B21 h21
    dsimp only [seqK]
    change Bod c (Sees s) L ((n_cleaned, .str (Txt.replace p t_hyhy t_hy) t21) :: (n_platform, .str p tp) :: m) _ _ at B21
    rw [hrep] at B21
    refine sK ?_
    refine wpAny_If ?_
    refine wpAny_isTrue_Compare1 ?_
    refine b_name B21 (envF_locals _ _ _) look_here (by kernel_rfl) (by kernel_rfl) (by kernel_rfl) ?_
    refine b_name B21 (envF_locals _ _ _) (look_there (by kernel_rfl) look_here) (by kernel_rfl) (by kernel_rfl) (by kernel_rfl) ?_
    refine b_eq_str ?_
    refine b_bool ?_
    by_cases ec : platB xs = p
    · rw [decide_eq_true ec]
      refine (if_pos rfl).mpr ?_
      refine sK ?_
      refine wpAny_Break ?_
      dsimp only [seqK]
      subst ec
      refine sK ?_
      refine wpAny_While ?_
      refine codeAny_whileLoop (fun n s' => s' = s21) ?_ 0 rfl
      rintro n s22 rfl
      obtain ⟨ch, hch, hch2⟩ := hlast
      have hne : (platB xs).length ≠ 0 := by
        intro e
        rw [e] at hch
        have : seqIndex? (-1) 0 = none := by decide
        rw [this] at hch
        cases hch
      refine wpAny_isTrue_BoolOp ?_
      refine wpAny_allTrue_And_cons ?_
      refine wpAny_isTrue_value ?_
      refine b_name B21 (envF_locals _ _ _) (look_there (by kernel_rfl) look_here) (by kernel_rfl) (by kernel_rfl) (by kernel_rfl) ?_
      refine P.truthy_str (by lia) ?_
      have B22 := B21.toks (s22.toks + 1 + 1)
      have htr : (((platB xs).length : Int) != 0) = true := by
        have : ((platB xs).length : Int) ≠ 0 := by lia
        simpa using this
      rw [htr]
      refine (if_pos rfl).mpr ?_
      refine wpAny_allTrue_And_cons ?_
      refine wpAny_isTrue_Compare1 ?_
      refine e_sub "str" "str.__getitem__" lk_str ?_
      refine b_name B22 (envF_locals _ _ _) (look_there (by kernel_rfl) look_here) (by kernel_rfl) (by kernel_rfl) (by kernel_rfl) ?_
      refine wpAny_UnaryOp ?_
      refine b_int B22 ?_
      intro t23 s23 B23
      refine P.neg_int ?_
      have B23 := B23.toks (s23.toks + 1)
      refine ⟨typeIs_str _ _ _, ?_⟩
      refine PyProof.Rows.getItem_str (by decide) hch ?_
      have B24 := B23.toks (s23.toks + 1 + 1)
      refine b_str B24 ?_
      intro t25 s25 B25
      refine b_eq_str ?_
      refine b_bool ?_
      have e45 : decide ((⟨#[ch]⟩ : Str) = ⟨⟨[45]⟩⟩) = false := by
        have := strEq1 ch 45
        rw [decide_eq_false hch2] at this
        exact this
      rw [e45]
      refine (if_neg Bool.false_ne_true).mpr ?_
      refine (if_neg Bool.false_ne_true).mpr ?_
      refine wpAny_execs_nil ?_
      dsimp only [seqK]
      refine sK ?_
      refine wpAny_Return_some ?_
      refine b_name B25 (envF_locals _ _ _) (look_there (by kernel_rfl) look_here) (by kernel_rfl) (by kernel_rfl) (by kernel_rfl) ?_
      exact h _ _ (B25.ev rfl)
    · rw [decide_eq_false ec]
      refine (if_neg Bool.false_ne_true).mpr ?_
      refine wpAny_execs_nil ?_
      dsimp only [seqK]
      refine sK ?_
      refine wpAny_with_toks (n := 1) h21 ?_
      refine wpAny_Assign_Name ?_
      refine b_name B21 (envF_locals _ _ _) look_here (by kernel_rfl) (by kernel_rfl) (by kernel_rfl) ?_
      refine b_store B21 (envF_locals _ _ _) (by kernel_rfl) (by kernel_rfl) ?_
      intro s22 B22 h22
      dsimp only [seqK]
      refine wpAny_execs_nil ?_
      refine ⟨0, Nat.pos_of_ne_zero fun e => ec (hn0 e).symm, platB xs, t21, _, hjB, hB, fun _ => rfl, look_here, h22, B22.ren fun x => look_dup.symm⟩
end Mine
end
section
namespace Mine
open PySem PySem.W PySem.W.X PyProof.Rows PySem.Calls

theorem strsFrom_are : ∀ (ys : List Str) (t : Nat), StrsAre (strsFrom t ys) ys
  | [], _ => .nil
  | y :: r, t => .cons y t (strsFrom_are r (t + 1))

theorem call_split {c : Cx} {A : Around} {E : Value → Shared → Prop} {s : Shared} {x y : Str} {t u : Tok} {Q : Value → Shared → Prop} (hy : (y.length == 0) = false) (hx : x.length ≤ 1000000)
    (h : ∀ items k, StrsAre items.toList (Txt.split x y) → Q (.ref s.heap.objs.size) { s with heap := s.heap.push (lstO items 0), toks := k }) : wpAny c.M A (call (.builtin "str.split") [.str x t, .str y u]) Q E s := by
  have hsz : x.length ≤ sizeLine := by rw [sizeLine_val]; lia
  have hsz2 : (Builtin.Str.partsBetween x (Builtin.Str.occurrences x y 0 x.length (x.length + 1)) y.length).length ≤ sizeLine := by
    have h1 := StrLaws.occ_length_le x y 0 x.length (x.length + 1)
    unfold Builtin.Str.partsBetween
    rw [List.length_map, List.length_zip, sizeLine_val]
    simp only [List.length_cons, List.length_map, List.length_append, List.length_nil]
    lia
  cases h1 : (decide (x.length < y.length) || decide (Builtin.Str.strKind x < Builtin.Str.strKind y))
  · cases hf : (Builtin.Str.occurrences x y 0 x.length (x.length + 1)).isEmpty
    · refine call_meets F.slot_str_split (typeIs_str _ _ _) F.entry_str_split (F.args_str_split_2 _ _) (meets_str_split_sep x y t u h1 hy hf hsz hsz2) ?_
      refine h (strsFrom s.toks (Builtin.Str.partsBetween x (Builtin.Str.occurrences x y 0 x.length (x.length + 1)) y.length)).toArray _ ?_
      have e : Txt.split x y = Builtin.Str.partsBetween x (Builtin.Str.occurrences x y 0 x.length (x.length + 1)) y.length := (if_neg (ne_true_of_eq_false h1)).trans (if_neg (ne_true_of_eq_false hf))
      rw [e]
      exact strsFrom_are _ _
    · refine call_meets F.slot_str_split (typeIs_str _ _ _) F.entry_str_split (F.args_str_split_2 _ _) (meets_str_split_not_found x y t u h1 hy hf) ?_
      refine h #[.str x t] s.toks ?_
      have e : Txt.split x y = [x] := (if_neg (ne_true_of_eq_false h1)).trans (if_pos hf)
      rw [e]
      exact .cons _ _ .nil
  · refine call_meets F.slot_str_split (typeIs_str _ _ _) F.entry_str_split (F.args_str_split_2 _ _) (meets_str_split_cannot_occur x y t u h1) ?_
    refine h #[.str x t] s.toks ?_
    have e : Txt.split x y = [x] := if_pos h1
    rw [e]
    exact .cons _ _ .nil

/-- the entries of a row of machines -/
noncomputable def entriesOf (ms : List (List Str)) : List Str := (ms.dropLast.map fun fs => Txt.join t_blank fs ++ t_semi) ++ [Txt.join t_blank (ms.getLastD [])]
noncomputable def last3 (l : List Str) : List Str := l.drop (l.length - 3)
noncomputable def toldOf (W : Int) (ms : List (List Str)) : List (List Str) := (Txt.split (platB (rowsOf W (entriesOf ms))) t_hy).map fun p => last3 (Txt.split p t_us)

/-- what the plain law has to show of a row of machines -/
structure ToldOk (W : Int) (ms : List (List Str)) (ws : List (List Nat)) (ls : List Str) (ps : List (Str × Str)) (p : Str × Str) : Prop where
  len : 1 ≤ ms.length ∧ ms.length ≤ 20
  flen : ∀ fs ∈ ms, fs.length ≤ 10 ∧ ∀ f ∈ fs, f.length ≤ 90
  text : (Txt.join t_blank (entriesOf ms)).cps.toList = spaced ws
  words : Words ws
  ne : ws ≠ []
  wlen : ∀ w ∈ ws, w.length ≤ 1000
  wn : ws.length ≤ 60
  lay : layS W (pairsOf ws) = (ls, ps ++ [p])
  ok1 : PyData.strOk p.1 = true
  ok2 : PyData.strOk p.2 = true
  p2 : p.2 ≠ ⟨⟨[]⟩⟩
  tot0 : tot (ps ++ [p]) ≠ 0
  nsp : Txt.isspace (lineOf (ps ++ [p])) = false
  rows : ls ++ [lineOf (ps ++ [p])] = rowsOf W (entriesOf ms)
  split : Txt.split (Txt.join t_nl (rowsOf W (entriesOf ms))) t_nl = rowsOf W (entriesOf ms)
  rn : (rowsOf W (entriesOf ms)).length ≤ 60
  rlen : ∀ x ∈ rowsOf W (entriesOf ms), x.length ≠ 0 ∧ x.length ≤ 5000 ∧ PyData.strOk x = true
  plat : Txt.replace (platB (rowsOf W (entriesOf ms))) t_hyhy t_hy = platB (rowsOf W (entriesOf ms))
  last : ∃ ch, (seqIndex? (-1) (platB (rowsOf W (entriesOf ms))).length).bind ((platB (rowsOf W (entriesOf ms))).cps[·]?) = some ch ∧ ch ≠ 45
  platz : (platB (rowsOf W (entriesOf ms))).length ≤ 1000000
  pn : (Txt.split (platB (rowsOf W (entriesOf ms))) t_hy).length ≤ 1000
  pz : ∀ pc ∈ Txt.split (platB (rowsOf W (entriesOf ms))) t_hy, pc.length ≤ 100000
  ps : ∀ pc ∈ Txt.split (platB (rowsOf W (entriesOf ms))) t_hy, (Txt.split pc t_us).length ≤ 100000

/-- a list of lists of texts in a heap -/
noncomputable def FieldsAt (h : Heap) (items : Array Value) (ms : List (List Str)) : Prop :=
  items.size = ms.length ∧ ∀ (j : Nat) (fs : List Str), ms[j]? = some fs → ∃ (a : Addr) (its : Array Value) (ep : Nat), items[j]? = some (.ref a) ∧ h.get? a = some (lstO its ep) ∧ StrsAre its.toList fs ∧ 270 ≤ a
/-- the same, the lists in a ledger -/
noncomputable def FieldsIn (nest : List (Addr × Obj)) (items : Array Value) (ms : List (List Str)) : Prop :=
  items.size = ms.length ∧ ∀ (j : Nat) (fs : List Str), ms[j]? = some fs → ∃ (a : Addr) (its : Array Value) (ep : Nat), items[j]? = some (.ref a) ∧ (a, lstO its ep) ∈ nest ∧ StrsAre its.toList fs

theorem FieldsIn.at {c : Cx} {he : Heap} {L : Addr} {m : List (Str × Value)} {mu nest : List (Addr × Obj)} {s : Shared} {items : Array Value} {ms : List (List Str)} (a : FieldsIn nest items ms) (B : Bod c he L m mu s) (k : ∀ p ∈ nest, p ∈ mu) : FieldsAt s.heap items ms :=
  ⟨a.1, fun j fs hj => let ⟨b, its, ep, q, r, t⟩ := a.2 j fs hj; ⟨b, its, ep, q, B.own _ (k _ r), t, B.lowM _ (k _ r)⟩⟩
theorem FieldsIn.mono {n n' : List (Addr × Obj)} {items : Array Value} {ms : List (List Str)} (a : FieldsIn n items ms) (k : ∀ p ∈ n, p ∈ n') : FieldsIn n' items ms :=
  ⟨a.1, fun j p hj => let ⟨T, t, t', q, b, r⟩ := a.2 j p hj; ⟨T, t, t', q, k _ b, r⟩⟩
end Mine
end
section
namespace Mine
open PySem PySem.W PySem.W.X PyProof.Rows PySem.Calls

theorem reads_strs {h : Heap} : ∀ {vs : List Value} {ys : List Str}, StrsAre vs ys → ReadsAll h vs (ys.map PyData.str) []
  | _, _, .nil => .nil
  | _, _, .cons y t r => by
    have := ReadsAll.cons (h := h) (Reads.str y t) (reads_strs r)
    exact this
theorem reads_lst {h : Heap} {a : Addr} {items : Array Value} {ep : Nat} {ys : List Str} (e : h.get? a = some (lstO items ep)) (hs : StrsAre items.toList ys) : Reads h (.ref a) (.list (ys.map PyData.str)) [a] :=
  .list e rfl rfl (reads_strs hs)
theorem strsAre_drop : ∀ {vs : List Value} {ys : List Str}, StrsAre vs ys → ∀ n, StrsAre (vs.drop n) (ys.drop n)
  | _, _, h, 0 => by simpa using h
  | _, _, .nil, n + 1 => by simpa using StrsAre.nil
  | _, _, .cons y t r, n + 1 => by simpa using strsAre_drop r n
theorem canLay_strs : ∀ (ys : List Str), (∀ y ∈ ys, PyData.strOk y = true) → PyData.canLayAll0 (ys.map PyData.str) = true
  | [], _ => rfl
  | y :: r, h => by
    have h1 := h y (List.mem_cons_self ..)
    have h2 := canLay_strs r fun z hz => h z (List.mem_cons_of_mem _ hz)
    simp [PyData.canLayAll0, PyData.canLay0, h1, h2]
theorem depth_strs : ∀ (ys : List Str), PyData.depthAll (ys.map PyData.str) ≤ 1
  | [] => by simp [PyData.depthAll]
  | y :: r => by
    have := depth_strs r
    simp [PyData.depthAll, PyData.depth]
    lia
theorem shaped_strs {ys : List Str} (h : ∀ y ∈ ys, PyData.strOk y = true) : SeqAt.shaped (.list (ys.map PyData.str)) = true := by
  have h1 := canLay_strs ys h
  have h2 := depth_strs ys
  simp [SeqAt.shaped, PyData.canLay0, PyData.depth, h1]
  lia
theorem eqv_strs : ∀ (ys : List Str), PyData.eqvAll (ys.map PyData.str) (ys.map PyData.str) = true
  | [] => rfl
  | y :: r => by
    have := eqv_strs r
    simp [PyData.eqvAll, PyData.eqv, this]
end Mine
end
section
namespace Mine
open PySem PySem.W PySem.W.X PyProof.Rows PySem.Calls

theorem Bod.see {c : Cx} {L : Addr} {m : List (Str × Value)} {mu : List (Addr × Obj)} {s s' : Shared} (B : Bod c (Sees s) L m mu s') : ∀ b o, 270 ≤ b → s.heap.get? b = some o → s'.heap.get? b = some o :=
  fun b o hb e => B.keep b o (hideAll_get _ e (by rw [List.append_nil]; exact Bod.notTab b hb))

theorem sum_len_le : ∀ (fs : List Str) (B : Nat), (∀ f ∈ fs, f.length ≤ B) → (fs.map (·.length)).sum ≤ fs.length * B
  | [], _, _ => Nat.zero_le _
  | f :: r, B, h => by
    have h1 := sum_len_le r B fun x hx => h x (List.mem_cons_of_mem _ hx)
    have h2 := h f (List.mem_cons_self ..)
    simp only [List.map_cons, List.sum_cons, List.length_cons, Nat.succ_mul]
    lia

theorem getLastD_get (ms : List (List Str)) (h : 1 ≤ ms.length) : ms[ms.length - 1]? = some (ms.getLastD []) := by
  cases ms with
  | nil => cases h
  | cons a r => rw [List.getLastD_eq_getLast?, List.getLast?_eq_getElem?, List.getElem?_eq_getElem (by simp)]; rfl

/-- entries = [..] + [..] -/
theorem entries_walk {c : Cx} {k : Nat} {A : Around} {s s1 : Shared} {L ml : Addr} {items : Array Value} {ep : Nat} {ms : List (List Str)} {W : Int} {tw : Tok} {Q : Value → Shared → Prop} {E : Value → Shared → Prop}
    (R' : Room k A) (hml : s.heap.get? ml = some (lstO items ep)) (hlo : 270 ≤ ml) (hF : FieldsAt s.heap items ms) (hlen : 1 ≤ ms.length ∧ ms.length ≤ 20) (hfl : ∀ fs ∈ ms, fs.length ≤ 10 ∧ ∀ f ∈ fs, f.length ≤ 90)
    (B : Bod c (Sees s) L [(n_width, .int W tw), (n_machines, .ref ml)] [] s1) (hLs : s.heap.objs.size ≤ L)
    (h : ∀ D its ep' rest s', StrsAre its.toList (entriesOf ms) → Bod c (Sees s) L [(n_width, .int W tw), (n_machines, .ref ml)] ((D, lstO its ep') :: rest) s' → Q (.ref D) s') :
    wpAny c.M A (eval (match (bodyF c.w.params 263)[0]? with | some (Stmt.Assign _ e _) => e | _ => default) (envF c.w.params 263 L)) Q E s1 := by
  have hjoin : ∀ fs ∈ ms, (fs.map (·.length)).sum + fs.length * t_blank.length ≤ 16777216 := fun fs hfs => by
    obtain ⟨h1, h2⟩ := hfl fs hfs
    have h3 := sum_len_le fs 90 h2
    have e1 : t_blank.length = 1 := rfl
    rw [e1]
    have : fs.length * 90 ≤ 10 * 90 := Nat.mul_le_mul_right _ h1
    lia
  have hjl : ∀ fs ∈ ms, (Txt.join t_blank fs).length ≤ 1000 := fun fs hfs => by
    obtain ⟨h1, h2⟩ := hfl fs hfs
    have h3 := sum_len_le fs 90 h2
    have h4 := join_len t_blank fs
    have e1 : t_blank.length = 1 := rfl
    rw [e1] at h4
    have : fs.length * 90 ≤ 10 * 90 := Nat.mul_le_mul_right _ h1
    lia
  have hsz := hF.1
  refine wpAny_BinOp ?_
  refine e_comp (fun j y nw => ∃ fs t, ms[j]? = some fs ∧ y = .str (Txt.join t_blank fs ++ t_semi) t ∧ nw = []) R'.handled ?_ ?_ ?_ ?_ ?_ (fun K1 E1 hK1 => ?_)
  · rfl
  · rfl
  · decide
  · decide
  · decide
  refine e_sub "list" "list.__getitem__" lk_lst ?_
  refine b_name B (envF_locals _ _ _) (by rfl) (by kernel_rfl) (by kernel_rfl) (by kernel_rfl) ?_
  refine e_slice ?_
  rw [evalPart_some, evalPart_none]
  refine wpAny_pure ?_
  refine wpAny_UnaryOp ?_
  refine b_int B ?_
  intro t2 s2 B2
  refine P.neg_int ?_
  have B2 := B2.toks (s2.toks + 1)
  refine ⟨_, _, _, _, B2, ?_⟩
  intro a3 s3 B3 k3 hs3
  have gml := B3.see _ _ hlo hml
  refine ⟨⟨_, gml, rfl⟩, ?_⟩
  refine getItem_lst ⟨_, gml, rfl⟩ ?_
  refine getSlice_body ⟨_, gml, _, rfl⟩ hs3 .none (.int _ _) ?_ (by rw [sizeLine_val]; lia)
  refine ⟨_, rfl, ?_⟩
  have epk : slicePick items none (some (-1)) none = (items.toList.take (items.size - 1)).toArray := slicePick_butLast items 1 (Nat.le_refl _)
  rw [epk]
  have B4 := B3.alloc (lstO (items.toList.take (items.size - 1)).toArray 0) s3.toks rfl
  have hz3 : 270 ≤ s3.heap.objs.size := B3.inv.size
  generalize s3.heap.objs.size = l4 at B4 hz3 ⊢
  refine hK1 l4 ((items.toList.take (items.size - 1)).toArray) _ _ B4.inv (B4.own (l4, lstO (items.toList.take (items.size - 1)).toArray 0) (List.mem_cons_self ..)) rfl ⟨_, rfl⟩ hz3 ?_ ?_ ?_
  · simp; lia
  · intro j v C m mu s5 E' hv hC B5
    have hj : j < items.size - 1 ∧ items[j]? = some v := by
      rw [List.getElem?_toArray, List.getElem?_take] at hv
      split at hv
      · rename_i hlt
        exact ⟨hlt, by rw [← Array.getElem?_toList]; exact hv⟩
      · cases hv
    refine hG fun zP zK => ?_
    obtain ⟨fs, hfs⟩ : ∃ fs, ms[j]? = some fs := ⟨ms[j]'(by lia), List.getElem?_eq_getElem (by lia)⟩
    obtain ⟨a, its, ep2, q1, q2, q3, q4⟩ := hF.2 j fs hfs
    refine zK ?_
    rw [hj.2] at q1
    cases q1
    have ga := B5.see _ _ q4 (B4.see _ _ q4 q2)
    refine wpAny_BinOp ?_
    refine c_attr ?_
    refine b_str B5 ?_
    intro t6 s6 B6
    with_reducible refine ms_join ?_
    refine cw_builtin ?_
    refine a_cons ?_
    refine b_name B6 rfl look_here rfl (by kernel_rfl) (by kernel_rfl) ?_
    refine a_nil ?_
    refine join_list (ys := fs) ⟨_, B6.see _ _ q4 (B4.see _ _ q4 q2), rfl, _, rfl⟩ q3 (hjoin fs (List.mem_of_getElem? hfs)) ?_
    intro t7 k7
    have B7 := B6.toks k7
    refine b_str B7 ?_
    intro t8 s8 B8
    refine b_add_str B8 ?_ ?_
    · have := hjl fs (List.mem_of_getElem? hfs)
      rw [sizeLine_val]
      show (Txt.join t_blank fs).length + 1 ≤ _
      lia
    intro t9 s9 B9
    refine ⟨[], ⟨fs, t9, hfs, rfl, rfl⟩, ?_, B9⟩
    intro p hp; cases hp
  intro D1 ys1 ep1 nest1 s5 M5 hys1 hF1
  have B5 := B4.turned (mu := []) M5
  refine e_listQ fun q1 e1 hq1 => ?_
  refine a_cons ?_
  refine c_attr ?_
  refine b_str B5 ?_
  intro t6 s6 B6
  with_reducible refine ms_join ?_
  refine cw_builtin ?_
  refine a_cons ?_
  refine e_sub "list" "list.__getitem__" lk_lst ?_
  refine b_name B6 (envF_locals _ _ _) (by rfl) (by kernel_rfl) (by kernel_rfl) (by kernel_rfl) ?_
  refine wpAny_UnaryOp ?_
  refine b_int B6 ?_
  intro t7 s7 B7
  refine P.neg_int ?_
  have B7 := B7.toks (s7.toks + 1)
  have gml7 := B7.see _ _ hlo hml
  refine ⟨⟨_, gml7, rfl⟩, ?_⟩
  have hlst := getLastD_get ms hlen.1
  refine hG fun zP zK => ?_
  obtain ⟨a, its, ep2, q1, q2, q3, q4⟩ := hF.2 _ _ hlst
  refine zK ?_
  refine wpAny_getItem_list_neg (x := .ref a) ⟨_, gml7, rfl, _, rfl⟩ (by lia) (by lia) (by lia) ?_ ?_
  · have : ((-1 : Int) + items.size).toNat = ms.length - 1 := by lia
    rw [this]; exact q1
  refine a_nil ?_
  have hin : ms.getLastD [] ∈ ms := List.mem_of_getElem? hlst
  refine join_list (ys := ms.getLastD []) ⟨_, B7.see _ _ q4 q2, rfl, _, rfl⟩ q3 (hjoin _ hin) ?_
  intro t8 k8
  have B8 := B7.toks k8
  refine a_nil ?_
  refine hq1 _ _ _ _ _ _ (by walk_at "sz") B8 ?_
  intro D2 s9 B9 hD2
  have hz1 : ys1.size ≤ 20 := by rw [hys1]; simp; lia
  refine PySem.P.add_list (items := ys1) (n := ep1) (items2 := #[.str (Txt.join t_blank (ms.getLastD [])) t8]) (n2 := 0) (B9.own (D1, lstO ys1 ep1) (mI 1 rfl)) (B9.own (D2, _) (List.mem_cons_self ..)) ?_ (by rw [sizeLine_val]; simp; lia)
  have B10 := B9.alloc (lstO (ys1 ++ #[.str (Txt.join t_blank (ms.getLastD [])) t8]) 0) s9.toks rfl
  refine h _ _ _ _ _ ?_ B10
  rw [Array.toList_append]
  refine strsAre_append (strsAre_of ?_ ?_) (.cons _ _ .nil)
  · rw [Array.length_toList, hys1]
    simp
    lia
  · intro j v hv
    obtain ⟨nw, ⟨fs, t, g1, g2, _⟩, _⟩ := hF1 j v (by rw [← Array.getElem?_toList]; exact hv)
    refine ⟨_, t, ?_, g2⟩
    rw [List.getElem?_map]
    have hj : j < ms.length - 1 := by
      have := (List.getElem?_eq_some_iff.mp hv).1
      rw [Array.length_toList, hys1] at this
      simp at this
      lia
    rw [List.getElem?_dropLast, if_pos hj, g1]
    rfl
end Mine
end
section
namespace Mine
open PySem PySem.W PySem.W.X PyProof.Rows PySem.Calls

theorem told_spec {c : Cx} {k : Nat} {A : Around} {s : Shared} {ml : Addr} {items : Array Value} {ep : Nat} {ms : List (List Str)} {W : Int} {tw : Tok} {ws : List (List Nat)} {ls : List Str} {ps : List (Str × Str)} {p : Str × Str} {Q : Value → Shared → Prop} {E : Value → Shared → Prop}
    (I : SInv c s) (R : Room (k + 12) A) (hml : s.heap.get? ml = some (lstO items ep)) (hlo : 270 ≤ ml) (hF : FieldsAt s.heap items ms) (T : ToldOk W ms ws ls ps p)
    (h : ∀ D ys ep' nest s', MEv c [] [] ((D, lstO ys ep') :: nest) s s' → FieldsIn nest ys (toldOf W ms) → Q (.ref D) s') : wpAny c.M A (call (.ref 263) [.ref ml, .int W tw]) Q E s := by
  refine enterL [(n_width, .int W tw), (n_machines, .ref ml)] [] I R (by walk_at "fn") ?_
  intro L s1 eL B kp R'
  have hzL : (Sees s).objs.size ≤ L := by rw [hideAll_size, eL]; exact Nat.le_refl _
  refine sK ?_
  refine wpAny_Assign_Name ?_
  refine entries_walk R' hml hlo hF T.len T.flen B (by rw [eL]; exact Nat.le_refl _) ?_
  intro DE eits eep rest2 s2 hes B2
  refine b_store B2 (envF_locals _ _ _) (by kernel_rfl) (by kernel_rfl) ?_
  intro s3 B3
  clear B B2
  dsimp only [seqK]
  refine sK ?_
  refine wpAny_Assign_Name ?_
  refine c_name ?_
  refine b_glob B3 (gv_ValueFormatter_u _) (by kernel_rfl) (by kernel_rfl) (by kernel_rfl) (by kernel_rfl) (by kernel_rfl) ?_
  refine cw_cls (by kernel_rfl) ?_
  refine a_cons ?_
  refine b_int B3 ?_
  intro t4 s4 B4
  refine a_cons ?_
  refine b_name B4 (envF_locals _ _ _) (by rfl) (by kernel_rfl) (by kernel_rfl) (by kernel_rfl) ?_
  refine a_cons ?_
  refine b_str B4 ?_
  intro t5 s5 B5
  refine a_cons ?_
  refine b_str B5 ?_
  intro t6 s6 B6
  refine a_nil ?_
  refine ⟨B6.inv, ?_⟩
  refine make_vf (k := k + 6) B6.inv R' ?_
  intro x dx od ln ac ad epa t1 s7 V M7
  have B7 := B6.turned (mu := []) M7
  have B7 : Bod c (Sees s) L _ (vfMu c.w.params x dx ac ad ln od #[] epa t1 t4 #[] 0 ++ ((DE, lstO eits eep) :: rest2)) s7 := Bod.pick (mu := [(x, instObj 137 dx), (dx, od), (ln, lstO #[] 0), (ac, accO ad #[] epa), (ad, acD c.w.params t1 (.int 0 t4))]) B7 [3, 4, 2, 0, 1]
  refine b_store B7 (envF_locals _ _ _) (by kernel_rfl) (by kernel_rfl) ?_
  intro s8 B8
  clear B3 B4 B5 B6 B7
  dsimp only [seqK]
  have hej : ((entriesOf ms).map (·.length)).sum + (entriesOf ms).length * t_blank.length ≤ 16777216 := by
    have hall : ∀ e ∈ entriesOf ms, e.length ≤ 1001 := by
      have hjl : ∀ fs ∈ ms, (Txt.join t_blank fs).length ≤ 1000 := fun fs hfs => by
        obtain ⟨h1, h2⟩ := T.flen fs hfs
        have h3 := sum_len_le fs 90 h2
        have h4 := join_len t_blank fs
        have e1 : t_blank.length = 1 := rfl
        rw [e1] at h4
        have : fs.length * 90 ≤ 10 * 90 := Nat.mul_le_mul_right _ h1
        lia
      intro e he
      rcases List.mem_append.mp he with he | he
      · refine hG fun zP zK => ?_
        obtain ⟨fs, hfs, rfl⟩ := List.mem_map.mp he
        refine zK ?_
        have := hjl fs (List.dropLast_subset _ hfs)
        rw [Str.len_append]
        show _ + 1 ≤ _
        lia
      · rw [List.mem_singleton.mp he]
        have := hjl _ (List.mem_of_getElem? (getLastD_get ms T.len.1))
        lia
    have h1 := sum_len_le (entriesOf ms) 1001 hall
    have h2 : (entriesOf ms).length = ms.length := by
      have := T.len.1
      unfold entriesOf
      simp
      lia
    have e1 : t_blank.length = 1 := rfl
    rw [h2] at h1
    have := T.len.2
    have h3 : ms.length * 1001 ≤ 20 * 1001 := Nat.mul_le_mul_right _ this
    rw [e1, h2]
    lia
  refine sK ?_
  refine wpAny_Expr ?_
  refine c_attr ?_
  refine b_name B8 (envF_locals _ _ _) (by rfl) (by kernel_rfl) (by kernel_rfl) (by kernel_rfl) ?_
  refine b_method (f := .ref 127) (C := 137) (dx := dx) (od := od) (ox := instObj 137 dx) B8 (mI 3 rfl) (mI 4 rfl) rfl rfl rfl (ff_ga _) can_o (ff_gk _) (ff_ascii_split_u _) (ft_ascii_split_u _) tf_f V.sh3 ?_
  refine cw_def (fo_127 _) (fd_127 _) ?_
  refine a_cons ?_
  refine b_str B8 ?_
  intro t9 s9 B9
  refine a_cons ?_
  refine c_attr ?_
  refine b_str B9 ?_
  intro t10 s10 B10
  with_reducible refine ms_join ?_
  refine cw_builtin ?_
  refine a_cons ?_
  refine b_name B10 (envF_locals _ _ _) (by rfl) (by kernel_rfl) (by kernel_rfl) (by kernel_rfl) ?_
  refine a_nil ?_
  refine join_list (ys := entriesOf ms) ⟨_, B10.own (DE, lstO eits eep) (mI 5 rfl), rfl, _, rfl⟩ hes hej ?_
  intro t11 k11
  have B11 := B10.toks k11
  refine a_cons ?_
  refine b_str B11 ?_
  intro t12 s12 B12
  refine a_nil ?_
  refine ⟨B12.inv, ?_⟩
  refine ascii_spec (k := k + 1) B12.inv R' (Bod.has B12) V T.ne T.words T.text T.wlen T.wn ?_
  intro pits epa2 t02 lits epl2 nest2 s13 M13 hls hps
  have B13 := B12.turned M13
  clear B8 B9 B10 B11 B12
  rw [T.lay] at hls hps
  dsimp only at hls hps ⊢
  refine sK ?_
  refine wpAny_Assign_Name ?_
  refine c_attrC ?_
  refine c_attr ?_
  refine b_name B13 (envF_locals _ _ _) (by rfl) (by kernel_rfl) (by kernel_rfl) (by kernel_rfl) ?_
  refine b_method (f := .ref 85) (C := 137) (dx := dx) (od := od) (ox := instObj 137 dx) B13 (mI 3 rfl) (mI 4 rfl) rfl rfl rfl (ff_ga _) can_o (ff_gk _) (ff_str_u _) (ft_str_u _) tf_f V.sh2 ?_
  refine cw_def (fo_85 _) (fd_85 _) ?_
  refine a_cons ?_
  refine b_str B13 ?_
  intro t14 s14 B14
  refine a_nil ?_
  refine ⟨B14.inv, ?_⟩
  have hpne : pits.size ≠ 0 := by rw [hps.1]; simp
  refine hG fun zP zK => ?_
  obtain ⟨pits', pv, rfl⟩ := Array.eq_push_of_size_ne_zero hpne
  refine zK ?_
  have hpn : (ps ++ [p]).length ≤ 60 := by
    have := (layS_len W _ (pairsOf ws) rfl).2.1
    rw [T.lay, pairsOf_length] at this
    exact Nat.le_trans this T.wn
  have hln : ls.length ≤ 60 := by
    have := (layS_len W _ (pairsOf ws) rfl).1
    rw [T.lay, pairsOf_length] at this
    exact Nat.le_trans this T.wn
  have hlz : lits.size = ls.length := by have := strsAre_length hls; rwa [Array.length_toList] at this
  have hpz : ∀ q ∈ ps ++ [p], q.1.length ≤ 10000 ∧ q.2.length ≤ 10000 := by
    intro q hq
    have hin := (layS_len W _ (pairsOf ws) rfl).2.2 q (by rw [T.lay]; exact hq)
    cases hws : ws with
    | nil => rw [hws] at hin; cases hin
    | cons w0 r0 =>
      have hw := T.wlen
      rw [hws] at hin hw
      rcases List.mem_cons.mp hin with rfl | hin
      · exact ⟨Nat.zero_le _, Nat.le_trans (hw _ (List.mem_cons_self ..)) (by decide)⟩
      · refine hG fun zP zK => ?_
        obtain ⟨v, hv, rfl⟩ := List.mem_map.mp hin
        refine zK ?_
        exact ⟨by show 1 ≤ 10000; lia, Nat.le_trans (hw _ (List.mem_cons_of_mem _ hv)) (by decide)⟩
  have hrsum : ((rowsOf W (entriesOf ms)).map (·.length)).sum + (rowsOf W (entriesOf ms)).length * t_nl.length ≤ 16777216 := by
    have h1 := sum_len_le _ 5000 fun x hx => (T.rlen x hx).2.1
    have h2 := T.rn
    have h3 : (rowsOf W (entriesOf ms)).length * 5000 ≤ 60 * 5000 := Nat.mul_le_mul_right _ h2
    have e1 : t_nl.length = 1 := rfl
    rw [e1]
    lia
  have hjz : ((ls ++ [lineOf (ps ++ [p])]).map (·.length)).sum + (ls ++ [lineOf (ps ++ [p])]).length * t_nl.length ≤ 16777216 := by rw [T.rows]; exact hrsum
  have hP := hps.at B14 (fun q hq => List.mem_append_left _ hq)
  refine str_u_spec (k := k + 3) B14.inv R' (Bod.has B14) V hP T.ok1 T.ok2 T.p2 hpz (by lia) T.tot0 T.nsp (by rw [hlz, sizeLine_val]; lia) hls hjz ?_
  intro epa3 t03 epl3 t15 t16 s15 M15
  have B15 := B14.turned M15
  clear B13 B14 hP
  with_reducible refine ms_split ?_
  refine cw_builtin ?_
  refine a_cons ?_
  refine b_str B15 ?_
  intro t17 s17 B17
  refine a_nil ?_
  rw [T.rows]
  have hjl : (Txt.join t_nl (rowsOf W (entriesOf ms))).length ≤ 1000000 := by
    have h0 := join_len t_nl (rowsOf W (entriesOf ms))
    have h1 := sum_len_le _ 5000 fun x hx => (T.rlen x hx).2.1
    have h3 : (rowsOf W (entriesOf ms)).length * 5000 ≤ 60 * 5000 := Nat.mul_le_mul_right _ T.rn
    have h4 := T.rn
    have e1 : t_nl.length = 1 := rfl
    rw [e1] at h0
    lia
  refine call_split (by decide) hjl ?_
  intro lines k18 hlines
  change StrsAre lines.toList (Txt.split (Txt.join t_nl (rowsOf W (entriesOf ms))) t_nl) at hlines
  rw [T.split] at hlines
  have B18 := B17.alloc (lstO lines 0) k18 rfl
  generalize s17.heap.objs.size = DL at B18 ⊢
  have B18 := B18.drop (mu' := (DL, lstO lines 0) :: (DE, lstO eits eep) :: rest2) (.cons_cons _ (List.sublist_append_of_sublist_right (List.sublist_append_of_sublist_right (List.sublist_append_of_sublist_right (List.Sublist.refl _)))))
  refine b_store B18 (envF_locals _ _ _) (by kernel_rfl) (by kernel_rfl) ?_
  intro s19 B19
  clear B15 B17 B18
  dsimp only [seqK]
  have hesz : eits.size ≤ 100 := by
    have h1 := strsAre_length hes
    rw [Array.length_toList] at h1
    have h2 : (entriesOf ms).length = ms.length := by
      have := T.len.1
      unfold entriesOf
      simp
      lia
    have := T.len.2
    lia
  have helen : ∀ e ∈ entriesOf ms, e.length ≤ 1000 := by
    have hjl : ∀ fs ∈ ms, (Txt.join t_blank fs).length ≤ 920 := fun fs hfs => by
      obtain ⟨h1, h2⟩ := T.flen fs hfs
      have h3 := sum_len_le fs 90 h2
      have h4 := join_len t_blank fs
      have e1 : t_blank.length = 1 := rfl
      rw [e1] at h4
      have : fs.length * 90 ≤ 10 * 90 := Nat.mul_le_mul_right _ h1
      lia
    intro e he
    rcases List.mem_append.mp he with he | he
    · refine hG fun zP zK => ?_
      obtain ⟨fs, hfs, rfl⟩ := List.mem_map.mp he
      refine zK ?_
      have := hjl fs (List.dropLast_subset _ hfs)
      rw [Str.len_append]
      show _ + 1 ≤ _
      lia
    · rw [List.mem_singleton.mp he]
      have := hjl _ (List.mem_of_getElem? (getLastD_get ms T.len.1))
      lia
  have hlsz : lines.size = (rowsOf W (entriesOf ms)).length := by have := strsAre_length hlines; rwa [Array.length_toList] at this
  refine sK ?_
  refine wpAny_If ?_
  refine wpAny_isTrue_Compare1 ?_
  refine b_name B19 (envF_locals _ _ _) (by rfl) (by kernel_rfl) (by kernel_rfl) (by kernel_rfl) ?_
  refine c_name ?_
  refine b_glob B19 (gv_law_rows_u _) (by kernel_rfl) (by kernel_rfl) (by kernel_rfl) (by kernel_rfl) (by kernel_rfl) ?_
  refine cw_def (fo_258 _) (fd_258 _) ?_
  refine a_cons ?_
  refine b_name B19 (envF_locals _ _ _) (by rfl) (by kernel_rfl) (by kernel_rfl) (by kernel_rfl) ?_
  refine a_cons ?_
  refine b_name B19 (envF_locals _ _ _) (by rfl) (by kernel_rfl) (by kernel_rfl) (by kernel_rfl) ?_
  refine a_nil ?_
  refine ⟨B19.inv, ?_⟩
  refine rows_spec (k := k + 10) B19.inv R' (B19.own (DE, lstO eits eep) (mI 1 rfl)) (B19.lowM (DE, lstO eits eep) (mI 1 rfl)) hes hesz helen ?_
  intro DR rys rep s20 hrys M20
  have B20 := B19.turned (mu := []) M20
  have rl : Reads s20.heap (.ref DL) (.list ((rowsOf W (entriesOf ms)).map PyData.str)) [DL] := reads_lst (B20.own (DL, lstO lines 0) (mI 1 rfl)) hlines
  have rr : Reads s20.heap (.ref DR) (.list ((rowsOf W (entriesOf ms)).map PyData.str)) [DR] := reads_lst (B20.own (DR, lstO rys rep) (mI 0 rfl)) hrys
  have hsh := shaped_strs (ys := rowsOf W (entriesOf ms)) fun x hx => (T.rlen x hx).2.2
  refine ne_dataH rl rr hsh hsh R'.u64 ?_
  have heqv : PyData.eqv (.list ((rowsOf W (entriesOf ms)).map PyData.str)) (.list ((rowsOf W (entriesOf ms)).map PyData.str)) = true := by
    have := eqv_strs (rowsOf W (entriesOf ms))
    simp [PyData.eqv, this]
  rw [heqv]
  refine b_bool ?_
  refine (if_neg Bool.false_ne_true).mpr ?_
  refine wpAny_execs_nil ?_
  dsimp only [seqK]
  clear B19 rl rr
  refine sK ?_
  refine wpAny_Return_some ?_
  refine e_comp (fun j y nw => ∃ pc a its ep, (Txt.split (platB (rowsOf W (entriesOf ms))) t_hy)[j]? = some pc ∧ y = .ref a ∧ nw = [(a, lstO its ep)] ∧ StrsAre its.toList (last3 (Txt.split pc t_us))) R'.handled ?_ ?_ ?_ ?_ ?_ (fun K1 E1 hK1 => ?_)
  · rfl
  · rfl
  · decide
  · decide
  · decide
  refine c_attrC ?_
  refine c_name ?_
  refine b_glob B20 (gv_platform_u _) (by kernel_rfl) (by kernel_rfl) (by kernel_rfl) (by kernel_rfl) (by kernel_rfl) ?_
  refine callWith_S (K := KS c.w.params) B20.inv.kin (by kernel_rfl) ?_
  refine b_name B20 (envF_locals _ _ _) (by rfl) (by kernel_rfl) (by kernel_rfl) (by kernel_rfl) ?_
  refine star_lst (B20.own (DL, lstO lines 0) (mI 1 rfl)) (by rw [sizeLine_val, hlsz]; have := T.rn; lia) ?_
  intro h21 k21
  have B21 := B20.kept (h' := h21) (t := s20.toks) k21 hzL
  refine ⟨B21.inv.kin, ?_⟩
  have hrne : rowsOf W (entriesOf ms) ≠ [] := by rw [← T.rows]; simp
  cases hlt : lines.toList with
  | nil =>
    have := strsAre_length hlines
    rw [hlt] at this
    exact absurd (List.eq_nil_of_length_eq_zero this.symm) hrne
  | cons v0 r0 =>
  rw [hlt] at hlines
  refine plat_spec (k := k + 10) B21.inv R' hlines (by have := T.rn; lia) (fun x hx => ⟨(T.rlen x hx).1, (T.rlen x hx).2.1⟩) T.plat T.last ?_
  intro t22 s22 E22
  have B22 := B21.after E22
  clear B20 B21
  with_reducible refine ms_split ?_
  refine cw_builtin ?_
  refine a_cons ?_
  refine b_str B22 ?_
  intro t23 s23 B23
  refine a_nil ?_
  refine call_split (by decide) T.platz ?_
  intro pcs k24 hpcs
  change StrsAre pcs.toList (Txt.split (platB (rowsOf W (entriesOf ms))) t_hy) at hpcs
  have B24 := B23.alloc (lstO pcs 0) k24 rfl
  have hz24 : 270 ≤ s23.heap.objs.size := B23.inv.size
  generalize s23.heap.objs.size = DP at B24 hz24 ⊢
  have hpcl : pcs.size = (Txt.split (platB (rowsOf W (entriesOf ms))) t_hy).length := by have := strsAre_length hpcs; rwa [Array.length_toList] at this
  refine hK1 DP pcs _ _ B24.inv (B24.own (DP, lstO pcs 0) (List.mem_cons_self ..)) rfl ⟨_, rfl⟩ hz24 ?_ ?_ ?_
  · rw [hpcl]; exact T.pn
  · intro j v C m mu s25 E' hv hC B25
    obtain ⟨pc, tpc, hpc, rfl⟩ := strsAre_back hpcs j v (by rw [Array.getElem?_toList]; exact hv)
    have hpcz := T.pz pc (List.mem_of_getElem? hpc)
    refine e_sub "list" "list.__getitem__" lk_lst ?_
    refine c_attr ?_
    refine b_name B25 rfl look_here rfl (by kernel_rfl) (by kernel_rfl) ?_
    with_reducible refine ms_split ?_
    refine cw_builtin ?_
    refine a_cons ?_
    refine b_str B25 ?_
    intro t26 s26 B26
    refine a_nil ?_
    refine call_split (by decide) (by lia) ?_
    intro sits k27 hsits
    change StrsAre sits.toList (Txt.split pc t_us) at hsits
    have B27 := B26.alloc (lstO sits 0) k27 rfl
    generalize s26.heap.objs.size = DS at B27 ⊢
    refine e_slice ?_
    rw [evalPart_some, evalPart_none]
    refine wpAny_UnaryOp ?_
    refine b_int B27 ?_
    intro t28 s28 B28
    refine P.neg_int ?_
    have B28 := B28.toks (s28.toks + 1)
    refine wpAny_pure ?_
    refine ⟨_, _, _, _, B28, ?_⟩
    intro a29 s29 B29 k29 hs29
    have gS := B29.own (DS, lstO sits 0) (List.mem_cons_self ..)
    refine ⟨⟨_, gS, rfl⟩, ?_⟩
    refine getItem_lst ⟨_, gS, rfl⟩ ?_
    have hsitl : sits.size = (Txt.split pc t_us).length := by have := strsAre_length hsits; rwa [Array.length_toList] at this
    refine getSlice_body ⟨_, gS, _, rfl⟩ hs29 (.int _ _) .none ?_ (by rw [sizeLine_val, hsitl]; have := T.ps pc (List.mem_of_getElem? hpc); lia)
    refine ⟨_, rfl, ?_⟩
    have epk : slicePick sits (some (-3)) none none = (sits.toList.drop (sits.size - 3)).toArray := slicePick_last sits 3 (by decide)
    rw [epk]
    have B30 := B29.alloc (lstO (sits.toList.drop (sits.size - 3)).toArray 0) s29.toks rfl
    have hs30 : (Sees { s23 with heap := s23.heap, toks := s23.toks }).objs.size ≤ s29.heap.objs.size ∨ True := .inr trivial
    have hz30 := B29.size
    rw [hideAll_size] at hz30
    generalize s29.heap.objs.size = DT at B30 hz30 ⊢
    refine ⟨[(DT, lstO (sits.toList.drop (sits.size - 3)).toArray 0)], ⟨pc, DT, _, _, hpc, rfl, rfl, ?_⟩, ?_, ?_⟩
    · show StrsAre (sits.toList.drop (sits.size - 3)) (last3 (Txt.split pc t_us))
      unfold last3
      rw [← hsitl]
      exact strsAre_drop hsits _
    · intro q hq
      rw [List.mem_singleton.mp hq]
      exact hz30
    · exact B30.drop (.cons_cons _ (.cons _ (.refl _)))
  · intro D ys ep' nest s25 M25 hys hF2
    have B25 := B24.turned (mu := []) M25
    have hs0 : s.heap.objs.size ≤ s25.heap.objs.size := by have := B25.size; rwa [hideAll_size] at this
    have hnew : ∀ q ∈ (D, lstO ys ep') :: nest, s.heap.objs.size ≤ q.1 := fun q hq => by
      have h1 := (M25.new q hq).2
      have h2 := B24.size
      rw [hideAll_size] at h2
      exact Nat.le_trans h2 h1
    refine h D ys ep' nest s25 (Bod.mev (mu := []) (mu' := []) (nw := (D, lstO ys ep') :: nest) B25 rfl hnew) ⟨?_, ?_⟩
    · rw [hys, hpcl]; unfold toldOf; rw [List.length_map]
    · intro j fs hfs
      unfold toldOf at hfs
      rw [List.getElem?_map] at hfs
      refine hG fun zP zK => ?_
      obtain ⟨pc, hpc, rfl⟩ := Option.map_eq_some_iff.mp hfs
      refine zK ?_
      have hjl : j < ys.size := by rw [hys, hpcl]; exact (List.getElem?_eq_some_iff.mp hpc).1
      refine hG fun zP zK => ?_
      obtain ⟨nw, ⟨pc', a, its, ep2, g1, g2, g3, g4⟩, g5⟩ := hF2 j ys[j] (Array.getElem?_eq_getElem hjl)
      refine zK ?_
      rw [hpc] at g1
      cases g1
      subst g3
      exact ⟨a, its, ep2, by rw [Array.getElem?_eq_getElem hjl, g2], g5 _ (List.mem_singleton.mpr rfl), g4⟩
end Mine
end
section
namespace Mine
open PySem PySem.W PySem.W.X PyProof.Rows PySem.Calls

inductive LopI (c : Cx) (he : Heap) (L it l : Addr) (T : Obj) (cls : String) (N : Nat) (J : Nat → List (Str × Value) → List (Addr × Obj) → Prop) (n : Nat) (s : Shared) : Prop
  | mk (j : Nat) (o : Obj) (m : List (Str × Value)) (mu : List (Addr × Obj)) (h1 : n = N - j) (h2 : j ≤ N) (h3 : o.cls = .type cls) (h4 : o.data = .fields #[.ref l, .int (j : Nat) 0]) (h5 : J j m mu) (h6 : Bod c he L m ((it, o) :: (l, T) :: mu) s) : LopI c he L it l T cls N J n s
/-- a loop over a list of the ledger -/
theorem lst_loop {c : Cx} {A : Around} {he : Heap} {L : Addr} {env : Env} {body orelse : List Stmt} {R : Result → Shared → Prop} {n1 : Str} {p1 : Pos}
    (J : Nat → List (Str × Value) → List (Addr × Obj) → Prop) (xs : Array Value) (hh : A.handled = none) (hL : env.locals = L) (hk : env.scope.kind = .function)
    (hl1 : env.kindOf n1 = some .local) (hz : he.objs.size ≤ L)
    (turn : ∀ j m mu s x (zm : List (Addr × Obj)), xs[j]? = some x → J j m mu → Bod c he L ((n1, x) :: m) (mu ++ zm) s →
      wpAny c.M A (execs body env) (fun f s₃ => match f with
          | .next | .cont => ∃ m' mu', J (j + 1) m' mu' ∧ Bod c he L m' (mu' ++ zm) s₃
          | .brk => R (.ok .next) s₃
          | .ret v => R (.ok (.ret v)) s₃) (notedBy c.M A env fun e s' => R (.error e) s') s)
    (done : ∀ m mu s, J xs.size m mu → Bod c he L m mu s → wpAny c.M A (execs orelse env) (fun f s₃ => R (.ok f) s₃) (notedBy c.M A env fun e s' => R (.error e) s') s)
    {it l : Addr} {o : Obj} {ep : Nat} {m : List (Str × Value)} {mu : List (Addr × Obj)} {s : Shared} (hoc : o.cls = .type "list_iterator") (hod : o.data = .fields #[.ref l, .int (0 : Nat) 0])
    (h0 : J 0 m mu) (B : Bod c he L m (mu ++ [(it, o), (l, lstO xs ep)]) s) : codeAny c.M A (.forLoop (.Name n1 p1) (.ref it) body orelse env) R s := by
  refine codeAny_forLoop (LopI c he L it l (lstO xs ep) "list_iterator" xs.size J) ?_ xs.size
    ⟨0, o, m, mu, rfl, Nat.zero_le _, hoc, hod, h0, B.perm List.perm_append_comm⟩
  intro n s zz1
  refine hG fun zP zK => ?_
  obtain ⟨j, o, m, mu, rfl, hj, hc, hd, hJ, B⟩ := zz1
  refine zK ?_
  have hit : s.heap.IsListIter it l j := ⟨o, B.own (it, o) (mI 0 rfl), hc, hd⟩
  have hl : SeqAt s.heap l xs := ⟨_, B.own (l, lstO xs ep) (mI 1 rfl), _, rfl⟩
  by_cases hlt : j < xs.size
  · refine next_item hit hl (Array.getElem?_eq_getElem hlt) ?_
    intro h1 i1 k1
    obtain ⟨oi, ei, ci, di⟩ := i1
    have B1 := B.turn1 (pre := []) (t := s.toks) k1 ei
    dsimp only
    refine wpAny_assign_Name ?_
    refine b_store B1 hL hk hl1 ?_
    intro s5 B5
    refine wpAny_mono (turn j m mu s5 _ [(it, oi), (l, lstO xs ep)] (Array.getElem?_eq_getElem hlt) hJ (B5.perm (List.perm_append_comm (l₁ := [(it, oi), (l, lstO xs ep)])))) (fun f s₃ h₃ => ?_) fun _ _ e => e
    have fin : (∃ m' mu', J (j + 1) m' mu' ∧ Bod c he L m' (mu' ++ [(it, oi), (l, lstO xs ep)]) s₃) → ∃ n', n' < xs.size - j ∧ LopI c he L it l (lstO xs ep) "list_iterator" xs.size J n' s₃ := by
      rintro ⟨m', mu', a1, a2⟩
      exact ⟨xs.size - (j + 1), by omega, j + 1, oi, m', mu', rfl, hlt, ci, di, a1, a2.perm List.perm_append_comm⟩
    cases f with
    | next => exact fin h₃
    | cont => exact fin h₃
    | brk => exact h₃
    | ret v => exact h₃
  · have ej : j = xs.size := by omega
    subst ej
    refine next_end hh hit hl (Array.getElem?_eq_none (by omega)) ?_
    intro h1 k1
    have B1 := B.ext1 (t := s.toks) k1 hz
    exact done m mu _ hJ (B1.drop (.cons _ (.refl _)))

/-- a loop over a tuple of the ledger -/
theorem tup_loop {c : Cx} {A : Around} {he : Heap} {L : Addr} {env : Env} {body orelse : List Stmt} {R : Result → Shared → Prop} {n1 : Str} {p1 : Pos}
    (J : Nat → List (Str × Value) → List (Addr × Obj) → Prop) (xs : List Value) (hh : A.handled = none) (hL : env.locals = L) (hk : env.scope.kind = .function)
    (hl1 : env.kindOf n1 = some .local) (hz : he.objs.size ≤ L)
    (turn : ∀ j m mu s x (zm : List (Addr × Obj)), xs[j]? = some x → J j m mu → Bod c he L ((n1, x) :: m) (mu ++ zm) s →
      wpAny c.M A (execs body env) (fun f s₃ => match f with
          | .next | .cont => ∃ m' mu', J (j + 1) m' mu' ∧ Bod c he L m' (mu' ++ zm) s₃
          | .brk => R (.ok .next) s₃
          | .ret v => R (.ok (.ret v)) s₃) (notedBy c.M A env fun e s' => R (.error e) s') s)
    (done : ∀ m mu s, J xs.length m mu → Bod c he L m mu s → wpAny c.M A (execs orelse env) (fun f s₃ => R (.ok f) s₃) (notedBy c.M A env fun e s' => R (.error e) s') s)
    {it l : Addr} {o : Obj} {m : List (Str × Value)} {mu : List (Addr × Obj)} {s : Shared} (hoc : o.cls = .type "tuple_iterator") (hod : o.data = .fields #[.ref l, .int (0 : Nat) 0])
    (h0 : J 0 m mu) (B : Bod c he L m (mu ++ [(it, o), (l, tupO xs)]) s) : codeAny c.M A (.forLoop (.Name n1 p1) (.ref it) body orelse env) R s := by
  refine codeAny_forLoop (LopI c he L it l (tupO xs) "tuple_iterator" xs.length J) ?_ xs.length
    ⟨0, o, m, mu, rfl, Nat.zero_le _, hoc, hod, h0, B.perm List.perm_append_comm⟩
  intro n s zz1
  refine hG fun zP zK => ?_
  obtain ⟨j, o, m, mu, rfl, hj, hc, hd, hJ, B⟩ := zz1
  refine zK ?_
  have hit : s.heap.IsTupleIter it l j := ⟨o, B.own (it, o) (mI 0 rfl), hc, hd⟩
  have hl : s.heap.IsTuple l xs.toArray := ⟨_, B.own (l, tupO xs) (mI 1 rfl), rfl, _, rfl⟩
  by_cases hlt : j < xs.length
  · refine wpAny_pyNext_tuple_item hit hl (by rw [List.getElem?_toArray]; exact List.getElem?_eq_getElem hlt) ?_
    intro h1 i1 k1
    obtain ⟨oi, ei, ci, di⟩ := i1
    have B1 := B.turn1 (pre := []) (t := s.toks) k1 ei
    dsimp only
    refine wpAny_assign_Name ?_
    refine b_store B1 hL hk hl1 ?_
    intro s5 B5
    refine wpAny_mono (turn j m mu s5 _ [(it, oi), (l, tupO xs)] (List.getElem?_eq_getElem hlt) hJ (B5.perm (List.perm_append_comm (l₁ := [(it, oi), (l, tupO xs)])))) (fun f s₃ h₃ => ?_) fun _ _ e => e
    have fin : (∃ m' mu', J (j + 1) m' mu' ∧ Bod c he L m' (mu' ++ [(it, oi), (l, tupO xs)]) s₃) → ∃ n', n' < xs.length - j ∧ LopI c he L it l (tupO xs) "tuple_iterator" xs.length J n' s₃ := by
      rintro ⟨m', mu', a1, a2⟩
      exact ⟨xs.length - (j + 1), by omega, j + 1, oi, m', mu', rfl, hlt, ci, di, a1, a2.perm List.perm_append_comm⟩
    cases f with
    | next => exact fin h₃
    | cont => exact fin h₃
    | brk => exact h₃
    | ret v => exact h₃
  · have ej : j = xs.length := by omega
    subst ej
    refine wpAny_pyNext_tuple_end hh hit hl (by rw [List.getElem?_toArray]; exact List.getElem?_eq_none (Nat.le_refl _)) ?_
    intro h1 k1
    have B1 := B.ext1 (t := s.toks) k1 hz
    exact done m mu _ hJ (B1.drop (.cons _ (.refl _)))

end Mine
end
section
namespace Mine
open PySem PySem.W PySem.W.X PyProof.Rows PySem.Calls

noncomputable def nOf (x : Int) : Nat := ((x.fdiv 60).fmod 1000).toNat
noncomputable def kOf (x : Int) : Nat := ((x.fdiv 5).fmod 4).toNat
noncomputable def numOf (x : Int) : Option Nat := if kOf x < 2 then some (nOf x) else none
noncomputable def tailOf (x : Int) : Str := if kOf x = 0 then t_empty else if kOf x = 1 then t_d10 else if kOf x = 2 then t_unknown else t_v ++ numS (nOf x)
noncomputable def sysOf (x : Int) : Str := [t_SunOS, t_unknown, t_win16, t_Linux, t_SunOS].getD (x.fmod 5).toNat t_empty
noncomputable def verOf (x : Int) : Str := [t_unknown, t_xx, t_i386].getD ((x.fdiv 20).fmod 3).toNat t_empty
noncomputable def machOf (x : Int) : Mach := ⟨sysOf x, numOf x, tailOf x, verOf x⟩
noncomputable def base3 : List Mach := [⟨t_SunOS, some 5, t_d8, t_unknown⟩, ⟨t_win32, none, t_unknown, t_v1⟩, ⟨t_SunOS, none, t_unknown, t_sun4u⟩]
noncomputable def machsOf (ns : List Int) : List Mach := base3 ++ (ns.take 5).map machOf

noncomputable def MachIn (nest : List (Addr × Obj)) (v : Value) (m : Mach) : Prop := ∃ a t1 t2 t3 t4, v = .ref a ∧ (a, tupO [.str m.sys t1, numV m.num t2, .str m.tail t3, .str m.ver t4]) ∈ nest
noncomputable def MachsIn (nest : List (Addr × Obj)) (items : Array Value) (ms : List Mach) : Prop := items.size = ms.length ∧ ∀ (j : Nat) (m : Mach), ms[j]? = some m → ∃ v, items[j]? = some v ∧ MachIn nest v m
theorem MachsIn.mono {n n' : List (Addr × Obj)} {items : Array Value} {ms : List Mach} (a : MachsIn n items ms) (k : ∀ p ∈ n, p ∈ n') : MachsIn n' items ms :=
  ⟨a.1, fun j p hj => let ⟨v, h1, T, t1, t2, t3, t4, q, b⟩ := a.2 j p hj; ⟨v, h1, T, t1, t2, t3, t4, q, k _ b⟩⟩
theorem MachsIn.snoc {n : List (Addr × Obj)} {items : Array Value} {ms : List Mach} {v : Value} {m : Mach} (a : MachsIn n items ms) (e : MachIn n v m) : MachsIn n (items.push v) (ms ++ [m]) := by
  refine ⟨by simp [a.1], fun j q hj => ?_⟩
  by_cases hlt : j < ms.length
  · rw [List.getElem?_append_left hlt] at hj
    obtain ⟨v', h1, h2⟩ := a.2 j q hj
    refine ⟨v', ?_, h2⟩
    rw [Array.getElem?_push_lt (by rw [a.1]; exact hlt)]
    have hlt' : j < items.size := by rw [a.1]; exact hlt
    rw [Array.getElem?_eq_getElem hlt'] at h1
    exact h1
  · have hj2 : j = ms.length := by
      have := (List.getElem?_eq_some_iff.mp hj).1
      simp at this; lia
    subst hj2
    rw [List.getElem?_append_right (Nat.le_refl _)] at hj
    simp at hj
    subst hj
    exact ⟨v, by rw [← a.1]; simp, e⟩

theorem fmod_range {a b : Int} (h : 0 < b) : 0 ≤ a.fmod b ∧ a.fmod b < b := ⟨Int.fmod_nonneg_of_pos a h, Int.fmod_lt_of_pos a h⟩

/-- an item of a tuple of the ledger -/
theorem get_tup {c : Cx} {A : Around} {E : Value → Shared → Prop} {s : Shared} {T : Addr} {vs : List Value} {z : Int} {u : Tok} {v : Value} {Q : Value → Shared → Prop} (hT : s.heap.get? T = some (tupO vs)) (h0 : 0 ≤ z) (hz : vs.length ≤ 1000) (hv : vs[z.toNat]? = some v) (h : Q v s) :
    wpAny c.M A (getItem (.ref T) (.int z u)) Q E s := by
  have hlt := (List.getElem?_eq_some_iff.mp hv).1
  exact PyProof.Rows.getItem_tuple (j := z.toNat) (items := vs.toArray) ⟨_, hT, rfl, _, rfl⟩ (by lia) (by lia) (by
    unfold seqIndex?
    have h1 : ¬ z < 0 := by lia
    simp only [h1, if_false, List.size_toArray]
    rw [if_pos (by simp; lia)]) (by rw [List.getElem?_toArray]; exact hv) h
end Mine
end
section
namespace Mine
open PySem PySem.W PySem.W.X PyProof.Rows PySem.Calls

theorem machines_spec {c : Cx} {k : Nat} {A : Around} {s : Shared} {o : Obj} {items : Array Value} {n : Nat} {ns : List Int} {Q : Value → Shared → Prop} {E : Value → Shared → Prop} (I : SInv c s) (R : Room (k + 1) A)
    (hsc : s.heap.get? 269 = some o) (hoc : o.cls = .type "list") (hod : o.data = .seq items n) (hns : ∀ (j : Nat) (x : Int), ns[j]? = some x → ∃ t, items[j]? = some (.int x t)) (hnl : items.size = ns.length) (hn63 : ns.length ≤ 63)
    (h : ∀ D ys ep nest s', MEv c [] [] ((D, lstO ys ep) :: nest) s s' → MachsIn nest ys (machsOf ns) → Q (.ref D) s') : wpAny c.M A (call (.ref 232) [.ref 269]) Q E s := by
  refine enterL [(n_script, .ref 269)] [] I R (by walk_at "fn") ?_
  intro L s1 eL B kp R'
  have hzL : (Sees s).objs.size ≤ L := by rw [hideAll_size, eL]; exact Nat.le_refl _
  refine sK ?_
  refine wpAny_Assign_Name ?_
  refine e_listQ fun q1 e1 hq1 => ?_
  refine a_cons ?_
  refine e_tupleQ fun q2 e2 hq2 => ?_
  refine a_cons ?_
  refine b_str B ?_
  intro a1 s2 B2
  refine a_cons ?_
  refine b_int B2 ?_
  intro a2 s3 B3
  refine a_cons ?_
  refine b_str B3 ?_
  intro a3 s4 B4
  refine a_cons ?_
  refine b_str B4 ?_
  intro a4 s5 B5
  refine a_nil ?_
  refine hq2 _ _ _ _ _ _ (by walk_at "sz") B5 ?_
  intro T1 s6 B6 hT1
  clear B2 B3 B4 B5
  refine a_cons ?_
  refine e_tupleQ fun q3 e3 hq3 => ?_
  refine a_cons ?_
  refine b_str B6 ?_
  intro b1 s7 B7
  refine a_cons ?_
  refine wpAny_Constant_none ?_
  refine a_cons ?_
  refine b_str B7 ?_
  intro b3 s8 B8
  refine a_cons ?_
  refine b_str B8 ?_
  intro b4 s9 B9
  refine a_nil ?_
  refine hq3 _ _ _ _ _ _ (by walk_at "sz") B9 ?_
  intro T2 s10 B10 hT2
  clear B6 B7 B8 B9
  refine a_cons ?_
  refine e_tupleQ fun q4 e4 hq4 => ?_
  refine a_cons ?_
  refine b_str B10 ?_
  intro d1 s11 B11
  refine a_cons ?_
  refine wpAny_Constant_none ?_
  refine a_cons ?_
  refine b_str B11 ?_
  intro d3 s12 B12
  refine a_cons ?_
  refine b_str B12 ?_
  intro d4 s13 B13
  refine a_nil ?_
  refine hq4 _ _ _ _ _ _ (by walk_at "sz") B13 ?_
  intro T3 s14 B14 hT3
  clear B10 B11 B12 B13
  refine a_nil ?_
  refine hq1 _ _ _ _ _ _ (by walk_at "sz") B14 ?_
  intro RR s15 B15 hRR
  refine b_store B15 (envF_locals _ _ _) (by kernel_rfl) (by kernel_rfl) ?_
  intro s16 B16
  clear B14 B15
  dsimp only [seqK]
  refine sK ?_
  refine wpAny_For ?_
  refine e_sub "list" "list.__getitem__" lk_lst ?_
  refine b_name B16 (envF_locals _ _ _) (by rfl) (by kernel_rfl) (by kernel_rfl) (by kernel_rfl) ?_
  refine e_slice ?_
  rw [evalPart_some, evalPart_none]
  refine wpAny_pure ?_
  refine b_int B16 ?_
  intro t17 s17 B17
  refine ⟨_, _, _, _, B17, ?_⟩
  intro a18 s18 B18 k18 hs18
  have g269 : s18.heap.get? 269 = some o := B18.keep _ _ (hideAll_get _ hsc (by decide))
  refine ⟨⟨_, g269, hoc⟩, ?_⟩
  refine getItem_lst ⟨_, g269, hoc⟩ ?_
  refine getSlice_body ⟨_, g269, _, hod⟩ hs18 .none (.int _ _) ?_ (by rw [sizeLine_val, hnl]; lia)
  refine ⟨_, rfl, ?_⟩
  have epk : slicePick items none (some (5 : Nat)) none = (items.toList.take 5).toArray := slicePick_upto' items 5
  have epk : slicePick items none (some 5) none = (items.toList.take 5).toArray := epk
  rw [epk]
  have B19 := B18.alloc (lstO (items.toList.take 5).toArray 0) s18.toks rfl
  generalize s18.heap.objs.size = LL at B19 ⊢
  refine wpAny_pyIter_list (items := (items.toList.take 5).toArray) ⟨_, B19.own (LL, lstO (items.toList.take 5).toArray 0) (List.mem_cons_self ..), rfl, _, rfl⟩ ?_
  have B20 := B19.alloc (liO LL 0) s18.toks rfl
  simp only [] at B20
  generalize hIT : Array.size (Heap.objs _) = IT at B20 ⊢
  have B20 : Bod c (Sees s) L _ (([(RR, lstO #[.ref T1, .ref T2, .ref T3] 0), (T3, tupO [.str t_SunOS d1, .none, .str t_unknown d3, .str t_sun4u d4]), (T2, tupO [.str t_win32 b1, .none, .str t_unknown b3, .str t_v1 b4]), (T1, tupO [.str t_SunOS a1, .int 5 a2, .str t_d8 a3, .str t_unknown a4])]) ++ [(IT, liO LL 0), (LL, lstO (items.toList.take 5).toArray 0)]) _ := B20.pick0 [2, 3, 4, 5, 0, 1]
  clear B16 B17 B18 B19
  refine lst_loop (fun j m mu => m.lookup n_rows = some (.ref RR) ∧ ∃ ys ep nest, mu = (RR, lstO ys ep) :: nest ∧ MachsIn nest ys (base3 ++ (ns.take j).map machOf) ∧ ∀ p ∈ nest, s.heap.objs.size ≤ p.1) (items.toList.take 5).toArray R'.handled (envF_locals _ _ _) (by kernel_rfl) (by kernel_rfl) hzL ?_ ?_ rfl rfl
    ⟨rfl, _, _, _, rfl, ?_, ?_⟩ B20
  · intro j m mu s21 x zm hx hJ B21
    refine hG fun zP zK => ?_
    obtain ⟨m1, ys, ep, nest, rfl, hM, hnst⟩ := hJ
    refine zK ?_
    have hj5 : j < 5 ∧ items[j]? = some x := by
      rw [List.getElem?_toArray, List.getElem?_take] at hx
      split at hx
      · rename_i hlt
        exact ⟨hlt, by rw [← Array.getElem?_toList]; exact hx⟩
      · cases hx
    have hjn : j < ns.length := by rw [← hnl]; exact (Array.getElem?_eq_some_iff.mp hj5.2).1
    obtain ⟨xi, hxi⟩ : ∃ xi, ns[j]? = some xi := ⟨ns[j], List.getElem?_eq_getElem hjn⟩
    obtain ⟨tx, htx⟩ := hns j xi hxi
    rw [hj5.2] at htx
    cases htx
    have hz := fmod_range (a := xi.fdiv 60) (b := 1000) (by decide)
    have hk := fmod_range (a := xi.fdiv 5) (b := 4) (by decide)
    have hs := fmod_range (a := xi) (b := 5) (by decide)
    have hv := fmod_range (a := xi.fdiv 20) (b := 3) (by decide)
    have hnO : ((nOf xi : Nat) : Int) = (xi.fdiv 60).fmod 1000 := Int.toNat_of_nonneg hz.1
    have hn1 : nOf xi < 1000 := by lia
    refine qE fun Q1 E1 hQ1 => ?_
    refine sK ?_
    refine wpAny_Assign_Name ?_
    refine wpAny_BinOp ?_
    refine wpAny_BinOp ?_
    refine b_name B21 (envF_locals _ _ _) (look_here) (by kernel_rfl) (by kernel_rfl) (by kernel_rfl) ?_
    refine b_int B21 ?_
    intro t22 s22 B22
    refine PyProof.Rows.floordiv_int (by decide) ?_ (Or.inl (PyProof.noPylong_small (by decide)))
    have B22 := B22.toks (s22.toks + 1)
    refine b_int B22 ?_
    intro t23 s23 B23
    refine PyProof.Rows.mod_int' (by decide) ?_
    have B23 := B23.toks (s23.toks + 1)
    refine b_store B23 (envF_locals _ _ _) (by kernel_rfl) (by kernel_rfl) ?_
    intro s24 B24
    clear B21 B22 B23
    dsimp only [seqK]
    rw [← hnO] at B24
    refine sK ?_
    refine Assign_Tuple ?_ (by kernel_rfl) (by kernel_rfl)
    refine wpAny_mono (Q := fun v s' => ∃ T t t' mu', v = .ref T ∧ (T, tupO [numV (numOf xi) t, .str (tailOf xi) t']) ∈ mu' ∧ Bod c (Sees s) L ((n_n, .int (nOf xi : Nat) s23.toks) :: (n_x, .int xi tx) :: m) (mu' ++ ((RR, lstO ys ep) :: nest ++ zm)) s') ?_ ?_ (fun _ _ e => e)
    · refine e_sub "tuple" "tuple.__getitem__" lk_tup ?_
      refine e_tupleQ fun q5 e5 hq5 => ?_
      refine a_cons ?_
      refine e_tupleQ fun q6 e6 hq6 => ?_
      refine a_cons ?_
      refine b_name B24 (envF_locals _ _ _) (look_here) (by kernel_rfl) (by kernel_rfl) (by kernel_rfl) ?_
      refine a_cons ?_
      refine b_str B24 ?_
      intro e1 s25 B25
      refine a_nil ?_
      refine hq6 _ _ _ _ _ _ (by walk_at "sz") B25 ?_
      intro P0 s26 B26 hP0
      refine a_cons ?_
      refine e_tupleQ fun q7 e7 hq7 => ?_
      refine a_cons ?_
      refine b_name B26 (envF_locals _ _ _) (look_here) (by kernel_rfl) (by kernel_rfl) (by kernel_rfl) ?_
      refine a_cons ?_
      refine b_str B26 ?_
      intro e2 s27 B27
      refine a_nil ?_
      refine hq7 _ _ _ _ _ _ (by walk_at "sz") B27 ?_
      intro P1 s28 B28 hP1
      refine a_cons ?_
      refine e_tupleQ fun q8 e8 hq8 => ?_
      refine a_cons ?_
      refine wpAny_Constant_none ?_
      refine a_cons ?_
      refine b_str B28 ?_
      intro e3 s29 B29
      refine a_nil ?_
      refine hq8 _ _ _ _ _ _ (by walk_at "sz") B29 ?_
      intro P2 s30 B30 hP2
      refine a_cons ?_
      refine e_tupleQ fun q9 e9 hq9 => ?_
      refine a_cons ?_
      refine wpAny_Constant_none ?_
      refine a_cons ?_
      refine wpAny_BinOp ?_
      refine b_str B30 ?_
      intro e4 s31 B31
      refine c_name ?_
      refine b_glob B31 (gv_str _) (by kernel_rfl) (by kernel_rfl) (by kernel_rfl) (by kernel_rfl) (by kernel_rfl) ?_
      refine cw_type ?_
      refine a_cons ?_
      refine b_name B31 (envF_locals _ _ _) (look_here) (by kernel_rfl) (by kernel_rfl) (by kernel_rfl) ?_
      refine a_nil ?_
      refine P.str_of_int (log2_small (Nat.lt_of_le_of_lt (m := 1000) (by lia) (by decide))) ?_
      have B32 := B31.toks (s31.toks + 1)
      refine b_add_str B32 ?_ ?_
      · have e9 := len_str_of_int ((nOf xi : Nat) : Int)
        rw [sizeLine_val]
        show 1 + (Str.ofString (toString ((nOf xi : Nat) : Int))).length ≤ _
        lia
      intro e5 s33 B33
      refine a_nil ?_
      refine hq9 _ _ _ _ _ _ (by walk_at "sz") B33 ?_
      intro P3 s34 B34 hP3
      refine a_nil ?_
      refine hq5 _ _ _ _ _ _ (by walk_at "sz") B34 ?_
      intro PT s35 B35 hPT
      clear B25 B26 B27 B28 B29 B30 B31 B32 B33 B34
      refine wpAny_BinOp ?_
      refine wpAny_BinOp ?_
      refine b_name B35 (envF_locals _ _ _) (look_there (by kernel_rfl) look_here) (by kernel_rfl) (by kernel_rfl) (by kernel_rfl) ?_
      refine b_int B35 ?_
      intro t36 s36 B36
      refine PyProof.Rows.floordiv_int (by decide) ?_ (Or.inl (PyProof.noPylong_small (by decide)))
      have B36 := B36.toks (s36.toks + 1)
      refine b_int B36 ?_
      intro t37 s37 B37
      refine PyProof.Rows.mod_int' (by decide) ?_
      have B37 := B37.toks (s37.toks + 1)
      have gPT := B37.own (PT, _) (List.mem_cons_self ..)
      refine ⟨⟨_, gPT, rfl⟩, ?_⟩
      have hcases : kOf xi = 0 ∨ kOf xi = 1 ∨ kOf xi = 2 ∨ kOf xi = 3 := by unfold kOf; lia
      have hkz : ((xi.fdiv 5).fmod 4).toNat = kOf xi := rfl
      rcases hcases with h0 | h0 | h0 | h0
      · refine get_tup (v := .ref P0) gPT hk.1 (by simp) (by rw [hkz, h0]; rfl) ?_
        refine ⟨P0, s23.toks, e1, [(PT, _), (P3, _), (P2, _), (P1, _), (P0, _)], rfl, ?_, B37⟩
        have q1 : numOf xi = some (nOf xi) := by unfold numOf; rw [h0]; rfl
        have q2 : tailOf xi = t_empty := by unfold tailOf; rw [h0]; rfl
        rw [q1, q2]
        exact .tail _ (.tail _ (.tail _ (.tail _ (.head _))))
      · refine get_tup (v := .ref P1) gPT hk.1 (by simp) (by rw [hkz, h0]; rfl) ?_
        refine ⟨P1, s23.toks, e2, [(PT, _), (P3, _), (P2, _), (P1, _), (P0, _)], rfl, ?_, B37⟩
        have q1 : numOf xi = some (nOf xi) := by unfold numOf; rw [h0]; rfl
        have q2 : tailOf xi = t_d10 := by unfold tailOf; rw [h0]; rfl
        rw [q1, q2]
        exact .tail _ (.tail _ (.tail _ (.head _)))
      · refine get_tup (v := .ref P2) gPT hk.1 (by simp) (by rw [hkz, h0]; rfl) ?_
        refine ⟨P2, 0, e3, [(PT, _), (P3, _), (P2, _), (P1, _), (P0, _)], rfl, ?_, B37⟩
        have q1 : numOf xi = none := by unfold numOf; rw [h0]; rfl
        have q2 : tailOf xi = t_unknown := by unfold tailOf; rw [h0]; rfl
        rw [q1, q2]
        exact .tail _ (.tail _ (.head _))
      · refine get_tup (v := .ref P3) gPT hk.1 (by simp) (by rw [hkz, h0]; rfl) ?_
        refine ⟨P3, 0, e5, [(PT, _), (P3, _), (P2, _), (P1, _), (P0, _)], rfl, ?_, B37⟩
        have q1 : numOf xi = none := by unfold numOf; rw [h0]; rfl
        have q2 : tailOf xi = t_v ++ numS (nOf xi) := by unfold tailOf; rw [h0]; rfl
        rw [q1, q2]
        exact .tail _ (.head _)
    clear B24
    intro v s25 zz1
    refine hG fun zP zK => ?_
    obtain ⟨T, tn, tt, mu', rfl, hTm, B25⟩ := zz1
    refine zK ?_
    refine assign_Tuple_tuple (items := #[numV (numOf xi) tn, .str (tailOf xi) tt]) R'.handled ⟨_, B25.own _ (List.mem_append_left _ hTm), rfl, _, rfl⟩ rfl rfl ?_
    intro h26 x26
    have B26 := B25.kept (h' := h26) (t := s25.toks) (fun b o e => x26 b o (Nat.ne_of_lt (Heap.lt_size e)) e) hzL
    refine assignInOrder_cons ?_
    refine wpAny_assign_Name ?_
    refine b_store B26 (envF_locals _ _ _) (by kernel_rfl) (by kernel_rfl) ?_
    intro s27 B27
    refine assignInOrder_cons ?_
    refine wpAny_assign_Name ?_
    refine b_store B27 (envF_locals _ _ _) (by kernel_rfl) (by kernel_rfl) ?_
    intro s28 B28
    refine assignInOrder_nil ?_
    clear B25 B26 B27
    have B28 := B28.drop (mu' := (RR, lstO ys ep) :: nest ++ zm) (List.sublist_append_right _ _)
    dsimp only [seqK]
    refine sK ?_
    refine wpAny_Assign_Name ?_
    refine wpAny_mono (Q := fun v s' => ∃ t, v = .str (sysOf xi) t ∧ Bod c (Sees s) L ((n_tail, .str (tailOf xi) tt) :: (n_number, numV (numOf xi) tn) :: (n_n, .int (nOf xi : Nat) s23.toks) :: (n_x, .int xi tx) :: m) ((RR, lstO ys ep) :: nest ++ zm) s') ?_ ?_ (fun _ _ e => e)
    · refine e_sub "tuple" "tuple.__getitem__" lk_tup ?_
      refine e_tupleQ fun q10 e10 hq10 => ?_
      refine a_cons ?_
      refine b_str B28 ?_
      intro f1 s29 B29
      refine a_cons ?_
      refine b_str B29 ?_
      intro f2 s30 B30
      refine a_cons ?_
      refine b_str B30 ?_
      intro f3 s31 B31
      refine a_cons ?_
      refine b_str B31 ?_
      intro f4 s32 B32
      refine a_cons ?_
      refine b_str B32 ?_
      intro f5 s33 B33
      refine a_nil ?_
      refine hq10 _ _ _ _ _ _ (by walk_at "sz") B33 ?_
      intro PT s35 B35 hPT
      clear B29 B30 B31 B32 B33
      refine wpAny_BinOp ?_
      refine b_name B35 (envF_locals _ _ _) (look_there (by kernel_rfl) (look_there (by kernel_rfl) (look_there (by kernel_rfl) look_here))) (by kernel_rfl) (by kernel_rfl) (by kernel_rfl) ?_
      refine b_int B35 ?_
      intro t36 s36 B36
      refine PyProof.Rows.mod_int' (by decide) ?_
      have B37 := B36.toks (s36.toks + 1)
      have gPT := B37.own (PT, _) (List.mem_cons_self ..)
      refine ⟨⟨_, gPT, rfl⟩, ?_⟩
      have hcases : (xi.fmod 5).toNat = 0 ∨ (xi.fmod 5).toNat = 1 ∨ (xi.fmod 5).toNat = 2 ∨ (xi.fmod 5).toNat = 3 ∨ (xi.fmod 5).toNat = 4 := by lia
      have B38 := B37.drop (mu' := (RR, lstO ys ep) :: nest ++ zm) (List.sublist_cons_self _ _)
      rcases hcases with h0 | h0 | h0 | h0 | h0
      · exact get_tup (v := .str t_SunOS f1) gPT hs.1 (by simp) (by rw [h0]; rfl) ⟨f1, by unfold sysOf; rw [h0]; rfl, B38⟩
      · exact get_tup (v := .str t_unknown f2) gPT hs.1 (by simp) (by rw [h0]; rfl) ⟨f2, by unfold sysOf; rw [h0]; rfl, B38⟩
      · exact get_tup (v := .str t_win16 f3) gPT hs.1 (by simp) (by rw [h0]; rfl) ⟨f3, by unfold sysOf; rw [h0]; rfl, B38⟩
      · exact get_tup (v := .str t_Linux f4) gPT hs.1 (by simp) (by rw [h0]; rfl) ⟨f4, by unfold sysOf; rw [h0]; rfl, B38⟩
      · exact get_tup (v := .str t_SunOS f5) gPT hs.1 (by simp) (by rw [h0]; rfl) ⟨f5, by unfold sysOf; rw [h0]; rfl, B38⟩
    clear B28
    rintro v s29 ⟨ts, rfl, B29⟩
    refine b_store B29 (envF_locals _ _ _) (by kernel_rfl) (by kernel_rfl) ?_
    intro s30 B30
    clear B29
    dsimp only [seqK]
    refine sK ?_
    refine wpAny_Expr ?_
    refine c_attr ?_
    have lkr : List.lookup n_rows ((n_system, Value.str (sysOf xi) ts) :: (n_tail, .str (tailOf xi) tt) :: (n_number, numV (numOf xi) tn) :: (n_n, .int (nOf xi : Nat) s23.toks) :: (n_x, .int xi tx) :: m) = some (.ref RR) :=
      look_there (by kernel_rfl) (look_there (by kernel_rfl) (look_there (by kernel_rfl) (look_there (by kernel_rfl) (look_there (by kernel_rfl) m1))))
    refine b_name B30 (envF_locals _ _ _) (lkr) (by kernel_rfl) (by kernel_rfl) (by kernel_rfl) ?_
    refine ml_append (B30.own (RR, lstO ys ep) (mI 0 rfl)) ?_
    refine cw_builtin ?_
    refine a_cons ?_
    refine e_tupleQ fun q11 e11 hq11 => ?_
    refine a_cons ?_
    refine b_name B30 (envF_locals _ _ _) (look_here) (by kernel_rfl) (by kernel_rfl) (by kernel_rfl) ?_
    refine a_cons ?_
    refine b_name B30 (envF_locals _ _ _) (look_there (by kernel_rfl) (look_there (by kernel_rfl) look_here)) (by kernel_rfl) (by kernel_rfl) (by kernel_rfl) ?_
    refine a_cons ?_
    refine b_name B30 (envF_locals _ _ _) (look_there (by kernel_rfl) look_here) (by kernel_rfl) (by kernel_rfl) (by kernel_rfl) ?_
    refine a_cons ?_
    refine wpAny_mono (Q := fun v s' => ∃ t, v = .str (verOf xi) t ∧ Bod c (Sees s) L ((n_system, Value.str (sysOf xi) ts) :: (n_tail, .str (tailOf xi) tt) :: (n_number, numV (numOf xi) tn) :: (n_n, .int (nOf xi : Nat) s23.toks) :: (n_x, .int xi tx) :: m) ((RR, lstO ys ep) :: nest ++ zm) s') ?_ ?_ (fun _ _ e => e)
    · refine e_sub "tuple" "tuple.__getitem__" lk_tup ?_
      refine e_tupleQ fun q12 e12 hq12 => ?_
      refine a_cons ?_
      refine b_str B30 ?_
      intro f1 s31 B31
      refine a_cons ?_
      refine b_str B31 ?_
      intro f2 s32 B32
      refine a_cons ?_
      refine b_str B32 ?_
      intro f3 s33 B33
      refine a_nil ?_
      refine hq12 _ _ _ _ _ _ (by walk_at "sz") B33 ?_
      intro PT s35 B35 hPT
      clear B31 B32 B33
      refine wpAny_BinOp ?_
      refine wpAny_BinOp ?_
      refine b_name B35 (envF_locals _ _ _) (look_there (by kernel_rfl) (look_there (by kernel_rfl) (look_there (by kernel_rfl) (look_there (by kernel_rfl) look_here)))) (by kernel_rfl) (by kernel_rfl) (by kernel_rfl) ?_
      refine b_int B35 ?_
      intro t36 s36 B36
      refine PyProof.Rows.floordiv_int (by decide) ?_ (Or.inl (PyProof.noPylong_small (by decide)))
      have B36 := B36.toks (s36.toks + 1)
      refine b_int B36 ?_
      intro t37 s37 B37
      refine PyProof.Rows.mod_int' (by decide) ?_
      have B37 := B37.toks (s37.toks + 1)
      have gPT := B37.own (PT, _) (List.mem_cons_self ..)
      refine ⟨⟨_, gPT, rfl⟩, ?_⟩
      have hcases : ((xi.fdiv 20).fmod 3).toNat = 0 ∨ ((xi.fdiv 20).fmod 3).toNat = 1 ∨ ((xi.fdiv 20).fmod 3).toNat = 2 := by lia
      have B38 := B37.drop (mu' := (RR, lstO ys ep) :: nest ++ zm) (List.sublist_cons_self _ _)
      rcases hcases with h0 | h0 | h0
      · exact get_tup (v := .str t_unknown f1) gPT hv.1 (by simp) (by rw [h0]; rfl) ⟨f1, by unfold verOf; rw [h0]; rfl, B38⟩
      · exact get_tup (v := .str t_xx f2) gPT hv.1 (by simp) (by rw [h0]; rfl) ⟨f2, by unfold verOf; rw [h0]; rfl, B38⟩
      · exact get_tup (v := .str t_i386 f3) gPT hv.1 (by simp) (by rw [h0]; rfl) ⟨f3, by unfold verOf; rw [h0]; rfl, B38⟩
    clear B30
    rintro v s31 ⟨tv, rfl, B31⟩
    refine a_nil ?_
    refine hq11 _ _ _ _ _ _ (by walk_at "sz") B31 ?_
    intro NT s32 B32 hNT
    refine a_nil ?_
    have hysz : ys.size ≤ 100 := by
      rw [hM.1]; simp [base3]; lia
    refine b_append (pre := [(NT, tupO [.str (sysOf xi) ts, numV (numOf xi) tn, .str (tailOf xi) tt, .str (verOf xi) tv])]) (post := nest ++ zm) B32 rfl (by rw [sizeLine_val]; lia) ?_
    intro ep2 s33 B33
    dsimp only [seqK]
    refine wpAny_execs_nil ?_
    have B34 := B33.perm (mu' := ((RR, lstO (ys.push (.ref NT)) ep2) :: (NT, tupO [.str (sysOf xi) ts, numV (numOf xi) tn, .str (tailOf xi) tt, .str (verOf xi) tv]) :: nest) ++ zm) (List.Perm.swap _ _ _)
    refine hQ1 _ _ ?_
    refine ⟨_, _, ⟨lkr, ys.push (.ref NT), ep2, _, rfl, ?_, ?_⟩, B34⟩
    · have e1 : base3 ++ (ns.take (j + 1)).map machOf = (base3 ++ (ns.take j).map machOf) ++ [machOf xi] := by
        rw [List.take_add_one, hxi]; simp
      rw [e1]
      exact (hM.mono fun p hp => List.mem_cons_of_mem _ hp).snoc ⟨NT, ts, tn, tt, tv, rfl, List.mem_cons_self ..⟩
    · intro p hp
      rcases List.mem_cons.mp hp with rfl | hp
      · rw [hideAll_size] at hNT; exact hNT
      · exact hnst p hp
  · intro m mu s21 hJ B21
    refine hG fun zP zK => ?_
    obtain ⟨m1, ys, ep, nest, rfl, hM, hnst⟩ := hJ
    refine zK ?_
    refine wpAny_execs_nil ?_
    dsimp only [seqK]
    refine sK ?_
    refine wpAny_Return_some ?_
    refine b_name B21 (envF_locals _ _ _) (m1) (by kernel_rfl) (by kernel_rfl) (by kernel_rfl) ?_
    have hRR0 : s.heap.objs.size ≤ RR := by rw [hideAll_size] at hRR; exact hRR
    refine h RR ys ep nest s21 (Bod.mev (mu := []) (mu' := []) (nw := (RR, lstO ys ep) :: nest) (rest := []) (by rw [List.append_nil]; exact B21) rfl ?_) ?_
    · intro p hp
      rcases List.mem_cons.mp hp with rfl | hp
      · exact hRR0
      · exact hnst p hp
    · have e1 : ((items.toList.take 5).toArray).size = min 5 ns.length := by simp [hnl]
      rw [e1] at hM
      have e2 : ns.take (min 5 ns.length) = ns.take 5 := by
        by_cases h5 : 5 ≤ ns.length
        · rw [Nat.min_eq_left h5]
        · rw [Nat.min_eq_right (by lia), List.take_length, List.take_of_length_le (by lia)]
      rw [e2] at hM
      exact hM
  · refine ⟨rfl, ?_⟩
    intro j m hm
    simp [base3] at hm
    match j, hm with
    | 0, hm => simp at hm; subst hm; exact ⟨.ref T1, rfl, T1, a1, a2, a3, a4, rfl, .tail _ (.tail _ (.head _))⟩
    | 1, hm => simp at hm; subst hm; exact ⟨.ref T2, rfl, T2, b1, 0, b3, b4, rfl, .tail _ (.head _)⟩
    | 2, hm => simp at hm; subst hm; exact ⟨.ref T3, rfl, T3, d1, 0, d3, d4, rfl, .head _⟩
    | j + 3, hm => simp at hm
  · intro p hp
    rw [hideAll_size] at hT1 hT2 hT3
    simp only [List.mem_cons, List.not_mem_nil, or_false] at hp
    rcases hp with rfl | rfl | rfl
    · exact hT3
    · exact hT2
    · exact hT1
end Mine
end
section
namespace Mine
open PySem PySem.W PySem.W.X PyProof.Rows PySem.Calls
open Sem (wp)

section
variable {α β : Type} {M : Model} {A : Around} {E : Value → Shared → Prop} {s : Shared} {env : Env}
theorem wpC_of {t : Sem α} {Q : α → Shared → Prop} (h : wpAny M A t Q E s) : wpC M A t Q E s := fun Γ p hΓ _ => h Γ p hΓ
theorem codeC_of {c : Code} {R : Result → Shared → Prop} (h : codeAny M A c R s) : codeC M A c R s := fun Γ p hc hΓ _ => h Γ p hc hΓ
theorem wpC_mono {t : Sem α} {Q Q' : α → Shared → Prop} {E' : Value → Shared → Prop} (h : wpC M A t Q E s) (hQ : ∀ a s, Q a s → Q' a s) (hE : ∀ e s, E e s → E' e s) : wpC M A t Q' E' s :=
  fun Γ p hΓ hc => Sem.wp_mono M Γ t (fun a _ s => hQ a s) (fun e _ s => hE e s) p s (h Γ p hΓ hc)
theorem wpC_bind {m : Sem α} {f : α → Sem β} {Q : β → Shared → Prop} (h : wpC M A m (fun a s' => wpC M A (f a) Q E s') E s) : wpC M A (m >>= f) Q E s := fun Γ p hΓ hc => by
  rw [Sem.wp_bind']
  exact Sem.wp_mono M Γ m (fun a p' s' h' => h' Γ p' hΓ hc) (fun _ _ _ h' => h') p s (h Γ p hΓ hc)
/-- a step without the caller's help, then the rest with it -/
theorem wpC_step {m : Sem α} {f : α → Sem β} {Q : β → Shared → Prop} (h : wpAny M A m (fun a s' => wpC M A (f a) Q E s') E s) : wpC M A (m >>= f) Q E s := wpC_bind (wpC_of h)
theorem wpC_pure {a : α} {Q : α → Shared → Prop} (h : Q a s) : wpC M A (pure a) Q E s := fun _ _ _ _ => h
theorem wpC_holding {vs : List Value} {m : Sem α} {Q : α → Shared → Prop} (h : wpC M A m Q E s) : wpC M A (holding vs m) Q E s := fun Γ p hΓ hc => by rw [Sem.wp_holding]; exact h Γ p hΓ hc
theorem wpC_onRaise {m : Sem α} {k : Value → Sem Unit} {Q : α → Shared → Prop} (h : wpC M A m Q (fun e s' => wpAny M A (k e) (fun _ s'' => E e s'') E s') s) : wpC M A (m.onRaise k) Q E s := fun Γ p hΓ hc => by
  rw [Sem.wp_onRaise]
  exact Sem.wp_mono M Γ m (fun _ _ _ h' => h') (fun e p' s' h' => h' Γ p' hΓ) p s (h Γ p hΓ hc)
theorem wpC_attempt {m : Sem α} {Q : Except Value α → Shared → Prop} (h : wpC M A m (fun a => Q (.ok a)) (fun e => Q (.error e)) s) : wpC M A m.attempt Q E s := fun Γ p hΓ hc => by rw [Sem.wp_attempt]; exact h Γ p hΓ hc
theorem wpC_operate {vs : List Value} {m : Sem Value} {Q : Value → Shared → Prop} (h : wpC M A m Q E s) : wpC M A (operate vs m) Q E s := fun Γ p hΓ hc => by rw [Sem.wp_operate]; exact h Γ p hΓ hc

theorem wpC_run {c : Code} {h : Option Value} {Q : Flow → Shared → Prop}
    (hc : codeC M (A.mark h) c (fun r s' => match r with | .ok f => Q f s' | .error e => E e s') s) (hnb : h ≠ some byPass := by intro x; cases x) : wpC M A (run c h) Q E s :=
  fun Γ p hΓ hk => by rw [Sem.wp_run]; exact hc _ p rfl (hΓ.enter c h p hnb) hk
theorem wpC_call {f : Value} {pos : List Value} {kw : List (Str × Value)} {Q : Value → Shared → Prop}
    (hc : codeC M A (.call f ⟨pos, kw⟩) (fun r s' => match r with | .ok (.ret v) => Q v s' | .ok _ => False | .error e => E e s') s) : wpC M A (call f pos kw) Q E s :=
  fun Γ p hΓ hk => by
    show wp M Γ (runValue (.call f ⟨pos, kw⟩)) _ _ p s
    rw [Sem.wp_runValue]; exact hc _ p rfl (hΓ.enter _ none p (by intro x; cases x)) hk
theorem wpC_runOwn {c : Code} {h : Option Value} {Q : Flow → Shared → Prop}
    (hc : codeC M (A.mark h) c (fun r s' => match r with | .ok f => Q f s' | .error e => cameBackBy M A env E e s') s) (hnb : h ≠ some byPass := by intro x; cases x) : wpC M A (runOwn c env h) Q E s := by
  unfold runOwn
  exact wpC_onRaise (wpC_run hc hnb)

theorem codeC_of_tree {c : Code} {R : Result → Shared → Prop}
    (h : wpC M (A.under c) (M.den c) (fun fin s' => match fin with | .done f => R (.ok f) s' | .again c' => c'.quiet = true ∧ codeC M A c' R s') (fun e s' => R (.error e) s') s) : codeC M A c R s := fun Γ p hc hΓ hk => by
  rw [wpCode_iff_wp, hc]
  refine Sem.wp_mono M Γ _ (fun fin p' s' h' => ?_) (fun _ _ _ h' => h') p s (h Γ p (hc ▸ hΓ.in) (by rw [List.any_cons, hk, Bool.or_true]))
  cases fin with
  | done f => exact h'
  | again c' => exact ⟨h'.1, h'.2 (Γ.goto c') p' rfl (hΓ.goto c') hk⟩

/-- what comes after a statement, under one name -/
noncomputable abbrev seqC (M : Model) (A : Around) (rest : List Stmt) (env : Env) (Q : Flow → Shared → Prop) (E : Value → Shared → Prop) (f : Flow) (s : Shared) : Prop :=
  match f with
  | .next => wpC M A (execs rest env) Q E s
  | f => Q f s
theorem wpC_execs_cons {st : Stmt} {rest : List Stmt} {Q : Flow → Shared → Prop}
    (h : wpC M A (exec st env) (seqC M A rest env Q E) E s) : wpC M A (execs (st :: rest) env) Q E s := by
  rw [execs_cons]
  refine wpC_bind (wpC_mono h (fun f s' h' => ?_) fun _ _ e => e)
  cases f <;> first | exact h' | exact wpC_pure h'
theorem wpC_If {test : Expr} {body orelse : List Stmt} {pos : Pos} {Q : Flow → Shared → Prop}
    (h : wpC M A (isTrue test env (eval test env)) (fun b s₂ => if b then wpC M A (execs body env) Q E s₂ else wpC M A (execs orelse env) Q E s₂) E s) : wpC M A (exec (.If test body orelse pos) env) Q E s := by
  rw [exec_If]
  refine wpC_step (wpAny_standAt (wpC_bind (wpC_mono h (fun b s₂ h₂ => ?_) fun _ _ e => e)))
  cases b <;> exact h₂
theorem wpC_isTrue_Compare1 {l r : Expr} {op : CmpOp} {pos : Pos} {whole : Sem Value} {Q : Bool → Shared → Prop}
    (h : wpC M A (eval l env) (fun a s₁ => wpAny M A (eval r env) (fun b s₂ => wpAny M A (compareOp op a b) (fun c s₃ => wpAny M A (truthy c) Q E s₃) E s₂) E s₁) E s)
    (hm : behindInMarks op r = false := by with_unfolding_all rfl) : wpC M A (isTrue (.Compare l [op] [r] pos) env whole) Q E s := fun Γ p hΓ hk => by
  simp only [isTrue_Compare1, markedBehindIn_of_false hm, Sem.wp_bind', Sem.wp_holding, Sem.wp_cmd_standAt, Sem.wp_operate]
  exact Sem.wp_mono M Γ _ (fun a p₁ s₁ h₁ => Sem.wp_mono M Γ _ (fun b _ s₂ h₂ => Sem.wp_mono M Γ _ (fun c p₃ s₃ h₃ => h₃ Γ p₃ hΓ)
    (fun _ _ _ h' => h') _ _ (h₂ Γ _ hΓ)) (fun _ _ _ h' => h') _ _ (h₁ Γ p₁ hΓ)) (fun _ _ _ h' => h') _ _ (h Γ p hΓ hk)
theorem wpC_Assign_Name {x : Str} {pos' pos : Pos} {value : Expr} {Q : Flow → Shared → Prop}
    (h : wpC M A (eval value env) (fun v s₁ => wpAny M A (storeName env x v) (fun _ => Q .next) E s₁) E s) (hs : swapsWith value (some (.Name x pos')) pos.line env = pure false := by rfl) :
    wpC M A (exec (.Assign [.Name x pos'] value pos) env) Q E s := fun Γ p hΓ hk => by
  simp only [exec_Assign_Name env x pos' value pos hs, Sem.wp_bind', Sem.wp_cmd_standAt, Sem.wp_bindName, Sem.wp_pure']
  exact Sem.wp_mono M Γ _ (fun v _ s₁ h₁ => h₁ Γ _ hΓ) (fun _ _ _ h' => h') _ _ (h Γ _ hΓ hk)
theorem wpC_For {target iter : Expr} {body orelse : List Stmt} {pos : Pos} {Q : Flow → Shared → Prop}
    (h : wpAny M A (eval iter env) (fun x s₁ => wpAny M A (pyIter x) (fun it s₂ =>
      codeC M A (.forLoop target it body orelse env) (fun r s' => match r with | .ok f => Q f s' | .error e => cameBackBy M A env E e s') s₂) E s₁) E s)
    (hs : ∀ x, foldedSetIterable iter env x = pure x := by intro _; rfl) : wpC M A (exec (.For target iter body orelse pos) env) Q E s := by
  rw [exec_For]
  exact wpC_step (wpAny_standAt (wpC_step (wpAny_mono h (fun x s₁ h₁ => wpC_step (wpAny_of_eq (hs x) (wpC_step (wpAny_standAt (wpC_step (wpAny_holding
    (wpAny_mono h₁ (fun it s₂ h₂ => wpC_runOwn h₂) fun _ _ h' => h'))))))) fun _ _ h' => h')))
end
end Mine
end
section
namespace Mine
open PySem PySem.W PySem.W.X PyProof.Rows PySem.Calls
open Sem (wp)

section
variable {M : Model} {A : Around} {E : Value → Shared → Prop} {s : Shared} {env : Env}
theorem wpC_keep {α : Type} {vs : List Value} {m : Sem α} {Q : α → Shared → Prop} (h : wpC M A m Q E s) : wpC M A (m.keep vs) Q E s := fun Γ p hΓ hk => by rw [Sem.wp_keep]; exact h Γ p hΓ hk
theorem wpC_noted {α : Type} {m : Sem α} {Q : α → Shared → Prop} (h : wpC M A m Q (notedBy M A env E) s) : wpC M A (m.onRaise fun x => do noteFrame x env; theTreesLotGoes x) Q E s :=
  wpC_onRaise (wpC_mono h (fun _ _ q => q) fun _ _ hx => wpAny_bind (wpAny_mono hx (fun _ _ e => wpAny_theTreesLotGoes e) fun _ _ e => e))
theorem codeC_loop {c : Code} {R : Result → Shared → Prop} (hq : c.quiet = true) (I : Nat → Shared → Prop)
    (turn : ∀ n s, I n s → wpC M (A.under c) (M.den c)
      (fun fin s' => match fin with
        | .done f => R (.ok f) s'
        | .again c' => (c' = c ∧ ∃ m, m < n ∧ I m s') ∨ (c'.quiet = true ∧ codeC M A c' R s')) (fun e s' => R (.error e) s') s)
    (n : Nat) (h : I n s) : codeC M A c R s := by
  induction n using Nat.strongRecOn generalizing s with
  | ind n ih =>
    refine codeC_of_tree (wpC_mono (turn n s h) (fun fin s' hf => ?_) fun _ _ h' => h')
    cases fin with
    | done f => exact hf
    | again c' =>
      rcases hf with ⟨rfl, m, hm, hI⟩ | hf
      · exact ⟨hq, ih m hm hI⟩
      · exact hf

/-- a call with one starred argument -/
theorem cwC_star {f : Value} {pos p : Pos} {e : Expr} {Q : Value → Shared → Prop} {P : Heap → Prop}
    (hk : ∀ h, P h → ∃ k, (k = Keeper.frame ∨ k = Keeper.machine ∨ k = Keeper.boundFrame) ∧ Looks M h (keeperOf f) k)
    (h : wpAny M A (eval e env) (fun v s₁ => StarOf M A E v (fun vs s₂ => P s₂.heap ∧ wpC M A (call f vs) Q E s₂) s₁) E s) :
    wpC M A (callWith pos f [] (backTo pos (starEach [.Starred e p] env)) []) Q E s := by
  unfold callWith
  have ha : wpAny M A (evalArgs f true (backTo pos (starEach [.Starred e p] env)) []) (fun a s₁ => P s₁.heap ∧ wpC M A (call f ([] ++ a.pos) a.kw) Q E s₁) E s :=
    ks_lone (wpAny_mono h (fun v s₁ h₁ => h₁) fun _ _ x => x)
  refine wpC_step (wpAny_holding (wpAny_mono ha (fun a s₁ h₁ => wpC_step (wpAny_standAt ?_)) fun _ _ x => x))
  refine hG fun zP zK => ?_
  obtain ⟨k, hk', L⟩ := hk _ h₁.1
  refine zK ?_
  have hst : ((backTo pos (starEach [.Starred e p] env)).any (·.1) || ([] : List (Option Str × Sem Value)).any (·.1.isNone)) = true := rfl
  rw [hst]
  refine wpC_step (L.here ?_)
  have tail : ∀ {t : Sem Value}, wpC M A t Q E s₁ → wpC M A (t >>= fun r => holding [r] point >>= fun _ => pure r) Q E s₁ :=
    fun ht => wpC_bind (wpC_mono ht (fun r s₂ hr => wpC_of (wpAny_bind (wpAny_holding (wpAny_point (wpAny_pure hr))))) fun _ _ x => x)
  rcases hk' with rfl | rfl | rfl <;> dsimp only <;> first | exact tail (wpC_keep h₁.2) | exact tail (wpC_operate h₁.2)

theorem cC_name {x : Str} {p pos : Pos} {args : List Expr} {Q : Value → Shared → Prop} (h : wpAny M A (eval (.Name x p) env) (fun f s₁ => wpC M A (callWith pos f [] (backTo pos (starEach args env)) []) Q E s₁) E s) :
    wpC M A (eval (.Call (.Name x p) args [] pos) env) Q E s := by
  show wpC M A (do callWith pos (← eval (.Name x p) env) [] (backTo pos (starEach args env)) (backToKw pos (keywordEach [] env))) Q E s
  exact wpC_step h
/-- a call of a builtin class, plain arguments -/
theorem cwC_type {pos : Pos} {T : String} {e : Expr} {rest : List Expr} {Q : Value → Shared → Prop}
    (h : wpAny M A (spliced (backTo pos (starEach (e :: rest) env))) (fun vs s₁ => wpC M A (call (.type T) vs) Q E s₁) E s) (he : noStars (e :: rest) = true := by rfl) :
    wpC M A (callWith pos (.type T) [] (backTo pos (starEach (e :: rest) env)) []) Q E s := by
  have hp := backTo_none (pos := pos) (env := env) he
  obtain ⟨h1, h2⟩ := Bool.and_eq_true_iff.mp he
  have ha : wpAny M A (evalArgs (.type T) true (backTo pos (starEach (e :: rest) env)) []) (fun a s₁ => wpC M A (call (.type T) ([] ++ a.pos) a.kw) Q E s₁) E s := by
    rw [starEach_of h1] at h ⊢
    exact evalArgs_plain h
  unfold callWith
  refine wpC_step (wpAny_holding (wpAny_mono ha (fun a s₁ h₁ => wpC_step (wpAny_standAt ?_)) fun _ _ x => x))
  simp only [hp, List.any_nil, Bool.or_false]
  refine wpC_step (wpAny_pure ?_)
  exact wpC_bind (wpC_mono h₁ (fun r s₂ hr => wpC_of (wpAny_bind (wpAny_holding (wpAny_point (wpAny_pure hr))))) fun _ _ x => x)

theorem wpC_Try {body orelse : List Stmt} {h₀ : ExceptHandler} {hs : List ExceptHandler} {pos : Pos} {Q : Flow → Shared → Prop}
    (h : wpC M A (execs body env) (fun f s₁ => match f with | .next => wpAny M A (execs orelse env) Q E s₁ | f => Q f s₁)
      (fun e s₁ => wpAny M A (noteFrame e env) (fun _ s₂ => wpAny M A (setFlight e none) (fun _ s₃ => wpAny M A (handleBy e env (h₀ :: hs)) Q E s₃) E s₂) E s₁) s) :
    wpC M A (exec (.Try body (h₀ :: hs) orelse [] pos) env) Q E s := by
  rw [arm_exec_Try]
  refine wpC_step (wpAny_standAt ?_)
  unfold tryStmt
  simp only [List.isEmpty_nil, if_true, List.isEmpty_cons, Bool.false_and, Bool.false_eq_true, if_false]
  refine wpC_bind (wpC_attempt (wpC_mono h (fun f s₁ h₁ => ?_) fun e s₁ h₁ => ?_))
  · cases f <;> first | exact wpC_of h₁ | exact wpC_pure h₁
  · exact wpC_of (wpAny_bind (wpAny_mono h₁ (fun _ _ h₂ => wpAny_bind h₂) fun _ _ x => x))
end

section
variable {prog : Program} {w : World} {A : Around} {s : Shared} {R : Result → Shared → Prop}
theorem codeC_func {body : List Stmt} {env : Env}
    (h : wpC (model prog w) (A.deeper env) (execs body env) (fun f s' => R (.ok (.ret (match f with | .ret v => v | _ => .none))) s')
      (fun e s' => wpAny (model prog w) (A.deeper env) (leaving env e) (fun _ s'' => R (.error e) s'') (fun e' s'' => R (.error e') s'') s') s) :
    codeC (model prog w) A (.func body env) R s := by
  refine codeC_of_tree ?_
  show wpC _ (A.deeper env) (do point; match ← (execs body env).onRaise (leaving env) with | .ret v => ret v | _ => ret .none) _ _ s
  refine wpC_step (wpAny_point (wpC_bind (wpC_onRaise (wpC_mono h (fun f s' h' => ?_) fun _ _ h' => h'))))
  cases f <;> exact wpC_pure h'

theorem codeC_forLoop {target : Expr} {it : Value} {body orelse : List Stmt} {env : Env} (I : Nat → Shared → Prop)
    (turn : ∀ n s, I n s → wpAny (model prog w) A (pyNext it) (fun r s₁ => match r with
      | none => wpAny (model prog w) A (execs orelse env) (fun f s₃ => R (.ok f) s₃) (notedBy (model prog w) A env fun e s' => R (.error e) s') s₁
      | some v => wpAny (model prog w) A (letOwnedTupleGo target it v) (fun _ s₁' =>
          wpAny (model prog w) A (assign target env v) (fun _ s₂ => wpC (model prog w) A (execs body env) (fun f s₃ => match f with
            | .next | .cont => ∃ m, m < n ∧ I m s₃
            | .brk => R (.ok .next) s₃
            | .ret v => R (.ok (.ret v)) s₃) (notedBy (model prog w) A env fun e s' => R (.error e) s') s₂) (notedBy (model prog w) A env fun e s' => R (.error e) s') s₁') (notedBy (model prog w) A env fun e s' => R (.error e) s') s₁) (notedBy (model prog w) A env fun e s' => R (.error e) s') s)
    (n : Nat) (h : I n s) : codeC (model prog w) A (.forLoop target it body orelse env) R s := by
  refine codeC_loop rfl I (fun n s hI => ?_) n h
  show wpC _ A ((forTurn target it body orelse env).onRaise (fun x => do noteFrame x env; theTreesLotGoes x)) _ _ s
  refine wpC_noted ?_
  simp only [forTurn]
  refine wpC_step (wpAny_standAt (wpC_step (wpAny_onRaise (wpAny_mono (turn n s hI) (fun r s₁ h₁ => ?_) fun _ _ h' => wpAny_standAt h'))))
  cases r with
  | none => exact wpC_pure (.inr ⟨rfl, codeC_of (codeAny_block h₁)⟩)
  | some v =>
    refine wpC_step (wpAny_mono h₁ (fun _ s₁' h₁' => ?_) fun _ _ h' => h')
    refine wpC_step (wpAny_mono h₁' (fun _ s₂ h₂ => wpC_bind (wpC_mono h₂ (fun f s₃ h₃ => ?_) fun _ _ h' => h')) fun _ _ h' => h')
    cases f with
    | next => exact wpC_pure (.inl ⟨rfl, h₃⟩)
    | cont => exact wpC_pure (.inl ⟨rfl, h₃⟩)
    | brk => exact wpC_pure h₃
    | ret v => exact wpC_pure h₃

theorem codeC_call_function {a : Addr} {args : Args} {o : Obj} {fd : FuncData} {body : List Stmt} (hroom : A.depth < recursionLimit) (ho : s.heap.get? a = some o)
    (hd' : o.data = .func fd) (hco : fd.scope.isCoroutine = false) (hgen : fd.scope.isGenerator = false) (hbody : fd.body = .stmts body) (hcd : s.heap.CodeRec fd.code fd.qualname)
    (h : wpAny (model prog w) A.in1 (bindArgs fd args) (fun binds s₁ =>
      wpAny (model prog w) A.in1 (newFunctionEnv fd.scope fd.globals fd.closure binds (fd.qualname ++ ".<locals>.") (some a) fd.code none fd.builtins)
        (fun env s₂ => s₂.heap.NoLimit ∧ codeC (model prog w) A (.func body env) R s₂) (fun e s' => R (.error e) s') s₁) (fun e s' => R (.error e) s') s) :
    codeC (model prog w) A (.call (.ref a) args) R s := by
  refine codeC_of_tree ?_
  show wpC _ A.in1 (callAny (.ref a) args) _ _ s
  simp only [callAny]
  refine wpC_step (wpAny_load ho ?_)
  refine hG fun zP zK => ?_
  obtain ⟨c, oc, vs, tq, hc, hoc, hdc, hq⟩ := hcd
  refine zK ?_
  simp only [hd', callFunction, hco, hgen, hbody, hc]
  rw [hc] at h
  refine wpC_step (m := field (.ref c) 1) (wpAny_field hoc hdc hq (wpC_step (wpAny_pure ?_)))
  exact wpC_step (wpAny_mono h (fun binds s₁ h₁ => wpC_step (wpAny_mono h₁ (fun env s₂ h₂ => wpC_step (wpAny_enterFrame h₂.1 hroom
    (wpC_pure (And.intro rfl h₂.2)))) fun _ _ h' => h')) fun _ _ h' => h')
end

/-- entering a def of the text, the caller below -/
theorem enterC {c : Cx} {k : Nat} {A : Around} {s : Shared} {f : Addr} {args : List Value} (m : List (Str × Value)) {Q : Value → Shared → Prop} {E : Value → Shared → Prop} (l : List Addr)
    (I : SInv c s) (R : Room (k + 1) A) (O : FnOk c.w.params f args m)
    (h : ∀ L s', L = s.heap.objs.size → Bod c (hideAll s.heap (tabs ++ l)) L m [] s' → Kept s.heap s'.heap → Room k (A.deeper (envF c.w.params f L)) →
      wpC c.M (A.deeper (envF c.w.params f L)) (execs (bodyF c.w.params f) (envF c.w.params f L)) (fun fl s' => Q (match fl with | .ret v => v | _ => .none) s') (fun _ _ => False) s') :
    wpC c.M A (call (.ref f) args) Q E s := by
  have hB : BindsTo s (fdF c.w.params f) ⟨args, []⟩ m.reverse := O.binds I.kin
  refine wpC_call ?_
  refine codeC_call_function (fd := fdF c.w.params f) (body := bodyF c.w.params f) R.lim (inK I O.at_) O.data O.co O.gen O.body (codeRec_of I.kin O.code) (hB _ _ _ _ ?_)
  refine wpAny_newFunctionEnv (fun x hx => of_decide_eq_true (List.all_eq_true.mp O.cell x hx)) (fun x hx => of_decide_eq_true (List.all_eq_true.mp O.loc x (List.mem_reverse.mp hx))) (fun h₁ hns hsb => ⟨(noLimit_of I).fresh _ hsb, codeC_func ?_⟩) O.kind
  have hk₁ : Kept s.heap h₁ := fun b o e => hsb.extBut b o (Nat.ne_of_lt (Heap.lt_size e)) (Heap.get?_push_of_some _ e)
  rw [List.reverse_reverse] at hns
  have hz : s.heap.objs.size ≤ h₁.objs.size := Nat.le_of_lt hns.lt
  have I' : SInv c { s with heap := h₁, toks := s.toks + m.reverse.length } := I.keeps hk₁ hz
  refine wpC_mono (h s.heap.objs.size { s with heap := h₁, toks := s.toks + m.reverse.length } rfl ⟨I', hns, fun b o e => hk₁ b o (of_hideAll _ e), hide_tabs, ?_, fun _ hp => (nomatch hp), fun _ hp => (nomatch hp), by simp, I.size, fun _ hp => (nomatch hp), by rw [hideAll_size]; exact hz⟩ hk₁ (R.deeper _)) (fun fl s' q => q) (fun _ _ q => q.elim)
  cases q : (hideAll s.heap (tabs ++ l)).get? s.heap.objs.size with
  | none => rfl
  | some o => exact absurd (Heap.lt_size (of_hideAll _ q)) (Nat.lt_irrefl _)
end Mine
end
section
namespace Mine
open PySem PySem.W PySem.W.X PyProof.Rows PySem.Calls PySem.NumText
open Sem (wp)

theorem new_text (x : PySem.Str) (u : Tok) : Builtin.«int.__new__» ⟨[.type "int", .str x u], []⟩ = ((int_private% "intFromText") (.str x u) (numTextOf x) 10 >>= fun v => PySem.ret v) := by kernel_rfl

theorem sizeBig {n : Nat} (h : n ≤ 100000) : n ≤ sizeLine := Nat.le_trans h (Nat.le_of_ble_eq_true rfl)
section
variable {M : Model} {A : Around} {E : Value → Shared → Prop} {s : Shared}
theorem wpC_if_true {α : Type} {c : Prop} [Decidable c] {a b : Sem α} {Q : α → Shared → Prop} (hc : c) (h : wpC M A a Q E s) : wpC M A (if c then a else b) Q E s := by rw [if_pos hc]; exact h
theorem wpC_if_false {α : Type} {c : Prop} [Decidable c] {a b : Sem α} {Q : α → Shared → Prop} (hc : ¬ c) (h : wpC M A b Q E s) : wpC M A (if c then a else b) Q E s := by rw [if_neg hc]; exact h
theorem wpC_mark {e : Value} {own : List String} {Q : Unit → Shared → Prop} (h : Q () s) : wpC M A (markTheRefusal own e) Q E s := fun Γ p hΓ hk => by
  have hno : pythonCodeMadeTheCall own (((Γ.code, p) :: Γ.below).map (·.1)) = false := by
    have hany : ((((Γ.code, p) :: Γ.below).map (·.1)).any Code.isCaller) = true := hk
    show ((!((((Γ.code, p) :: Γ.below).map (·.1)).any Code.isCaller) && _) && _) = false
    rw [hany]
    rfl
  show wp M Γ (if pythonCodeMadeTheCall own (((Γ.code, p) :: Γ.below).map (·.1)) = true then _ else _) _ _ p s
  rw [hno]
  exact h

theorem refuse_text {prog : Program} {w : World} {x : PySem.Str} {u : Tok} {Q : Value → Shared → Prop} (hh : A.handled = none) (hl : x.length ≤ 200) (hbad : (int_private% "readNumeral") 0 10 (numSeenOf x) = int_private% "Numeral.invalid") (hrep : (reprText x).length ≤ 10000)
    (hE : ∀ h' k e, Heap.NewExc s.heap h' e "ValueError" → E (.ref e) { s with heap := h', toks := k }) :
    wpC (model prog w) A ((int_private% "intFromText") (.str x u) (numTextOf x) 10) Q E s := by
  have hs : (numSeenOf x).length ≤ 640 := Nat.le_trans (seen_length x) (by lia)
  refine wpC_if_true hs ?_
  refine wpC_step (wpAny_pure ?_)
  have hb : (int_private% "readNumeral") 0 10 (List.takeWhile (fun x => x != 0) (numTextOf x)) = int_private% "Numeral.invalid" := hbad
  have hby : (int_private% "bytesOf?") (.str x u) = pure none := by rfl
  dsimp only
  rw [hb]
  dsimp only
  refine wpC_step (wpAny_of_eq hby ?_)
  refine wpC_if_false (by simp) ?_
  refine wpC_step (wpAny_rule ?_)
  refine wpC_step (wpAny_of_eq hby ?_)
  dsimp only
  refine wpC_step (wpAny_pyRepr_str ?_ (sizeBig (by lia)))
  refine wpC_step (wpAny_mkStr ?_ ?_)
  · refine wpC_step (wpAny_newExc_plain plainExc_ValueError (fun h' e hm => ?_) (sizeBig (by simp)))
    refine wpC_bind (wpC_mark (wpC_of (wpAny_raiseNew_none hh ?_)))
    exact hE _ _ _ hm.newExc
  · refine sizeBig ?_
    have h1 : (((Str.ofString (toString "invalid literal for int() with base " ++ toString 10 ++ toString ": ")) ++ { cps := (reprText x).cps.extract 0 200 } : PySem.Str)).length = (Str.ofString (toString "invalid literal for int() with base " ++ toString 10 ++ toString ": ")).length + ((reprText x).cps.extract 0 200).size := Array.size_append ..
    have h2 : (Str.ofString (toString "invalid literal for int() with base " ++ toString 10 ++ toString ": ")).length ≤ 1000 := by decide +kernel
    have h3 : ((reprText x).cps.extract 0 200).size ≤ 200 := by rw [Array.size_extract]; lia
    lia
end
end Mine
end
section
namespace Mine
open PySem PySem.W PySem.W.X PyProof.Rows PySem.Calls PySem.NumText
open Sem (wp)

section
variable {prog : Program} {w : World} {A : Around} {E : Value → Shared → Prop} {s : Shared}
theorem codeC_den {id : String} {args : Args} {b : Builtin} {A' : Around} {Q : Fin → Shared → Prop} (hb : entryFor table id = some b) (h : wpC (model prog w) A' (b args) Q E s) : wpC (model prog w) A' ((model prog w).den (.builtin id args)) Q E s := by
  show wpC _ _ (match entryFor table id with | some b => b args | none => unsupported ((withoutEnding? id "#data").getD id)) _ _ s
  rw [hb]; exact h
theorem int_refuses {x : PySem.Str} {u : Tok} {Q : Value → Shared → Prop} (hh : A.handled = none) (hl : x.length ≤ 200) (hbad : (int_private% "readNumeral") 0 10 (numSeenOf x) = int_private% "Numeral.invalid") (hrep : (reprText x).length ≤ 10000)
    (hE : ∀ h' k e, Heap.NewExc s.heap h' e "ValueError" → E (.ref e) { s with heap := h', toks := k }) :
    wpC (model prog w) A (call (.type "int") [.str x u]) Q E s := by
  obtain ⟨h1, h2, ⟨c0, tl, hmro⟩, hmade, hst, hsub, hin⟩ := F.called_int
  refine wpC_call (codeC_of_tree ?_)
  show wpC _ _ (callAny (.type "int") _) _ _ _
  refine wpC_pure ⟨Code.quiet_builtin _ (by decide +kernel), codeC_of_tree ?_⟩
  rw [Around.under_plain (weight_type_call_type "int" [.str x u] []) rfl]
  refine codeC_den F.entry_type_call ?_
  unfold Builtin.«type.__call__»
  simp only [h1, h2, hmade, hmro, F.typeCall_int_1, pure_bind, Bool.false_eq_true, if_false, List.isEmpty_cons]
  refine wpC_bind (wpC_holding (wpC_call (codeC_of_tree ?_)))
  show wpC _ _ (callAny (.builtin "int.__new__") _) _ _ _
  simp only [callAny]
  refine wpC_step (wpAny_of_eq (F.newCall_int_1 _) (wpC_pure ⟨Code.quiet_builtin _ (by decide +kernel), codeC_of_tree ?_⟩))
  rw [Around.under_plainId hst]
  refine codeC_den F.entry_int_new ?_
  rw [new_text]
  exact wpC_bind (refuse_text hh hl hbad hrep hE)
end
end Mine
end
section
namespace Mine
open PySem PySem.W PySem.W.X PyProof.Rows PySem.Calls PySem.NumText
open Sem (wp)

theorem bad_of {x : PySem.Str} (h : digits? 10 (core (numSeenOf x)) = none) : (int_private% "readNumeral") 0 10 (numSeenOf x) = int_private% "Numeral.invalid" := by
  rw [readNumeral_ten, h]; rfl

/-- the kept part, a frame's slots turned -/
noncomputable def reSlot (he : Heap) (Ll : Addr) (sl : Array (Option Value)) : Heap := he.update Ll fun o => { o with slots := sl }

/-- a body after an exception was noted in two frames: its own and one kept below -/
theorem Bod.slots {c : Cx} {he : Heap} {L Ll e : Addr} {m : List (Str × Value)} {mu : List (Addr × Obj)} {s : Shared} {ol : Obj} {h' h3 : Heap} {k : Nat} {sl : Array (Option Value)}
    (B : Bod c he L m mu s) (hol : he.get? Ll = some ol) (hod : ∀ vs, ol.data ≠ .fields vs) (hlo : 270 ≤ Ll) (hzL : he.objs.size ≤ L) (hx : Heap.NewExc s.heap h' e "ValueError")
    (hst : (hideAll h' [L, Ll, e]).StaysIn h3) (hLl : h3.get? Ll = some { ol with slots := sl }) (hL : h3.Ns L fun x => m.lookup x) :
    Bod c (reSlot he Ll sl) L m mu { s with heap := h3, toks := k } := by
  have hne : ∀ b o, s.heap.get? b = some o → b ≠ e := fun b o q z => by rw [z, hx.new] at q; cases q
  have k3 : ∀ b o, s.heap.get? b = some o → b ≠ L → b ≠ Ll → h3.get? b = some o := fun b o q z1 z2 =>
    hst b o (hideAll_get _ (hx.keeps b o q) (by simp only [List.mem_cons, List.not_mem_nil, or_false, not_or]; exact ⟨z1, z2, hne b o q⟩))
  have klow : ∀ b o, b < 270 → s.heap.get? b = some o → h3.get? b = some o := fun b o hb q => k3 b o q (fun z => absurd B.lowL (by rw [← z]; exact Nat.not_le.mpr hb)) (fun z => absurd hlo (by rw [← z]; exact Nat.not_le.mpr hb))
  have hLlL : Ll ≠ L := fun z => by rw [z, B.hidL] at hol; cases hol
  have hLt := hL.lt
  have hsz : (reSlot he Ll sl).objs.size = he.objs.size := (Heap.SameBut.update ..).1
  have hoth : ∀ b, b ≠ Ll → (reSlot he Ll sl).get? b = he.get? b := fun b hb => Heap.get?_update_other _ _ (Ne.symm hb)
  have hself : (reSlot he Ll sl).get? Ll = some { ol with slots := sl } := Heap.get?_update_self _ hol (Heap.get?_some_iff.mp hLl).2
  have I := B.inv
  refine ⟨⟨fun b o q => klow b o (KS_lt q) (I.kin b o q), oldK_low I.old (Nat.le_of_eq c.szB) klow, Nat.le_of_lt (Nat.lt_of_le_of_lt B.lowL hLt), I.t47.low klow (by decide) (by decide), I.t183.low klow (by decide) (by decide), I.t190.low klow (by decide) (by decide), I.bare, I.os⟩,
    hL, ?_, ?_, ?_, ?_, ?_, B.nod, B.lowL, B.lowM, by rw [hsz]; exact Nat.le_trans hzL (Nat.le_of_lt hLt)⟩
  · intro b o q
    by_cases hb : b = Ll
    · subst hb
      rw [hself] at q
      cases q
      exact hLl
    · rw [hoth b hb] at q
      exact k3 b o (B.keep b o q) (fun z => by rw [z, B.hidL] at q; cases q) hb
  · intro b hb
    rw [hoth b fun z => Bod.notTab Ll hlo (z ▸ hb)]
    exact B.hidT b hb
  · rw [hoth L (Ne.symm hLlL)]; exact B.hidL
  · intro p hp
    rw [hoth p.1 fun z => by have := B.hidM p hp; rw [z, hol] at this; cases this]
    exact B.hidM p hp
  · intro p hp
    refine k3 _ _ (B.own p hp) (fun z => ?_) (fun z => by have := B.hidM p hp; rw [z, hol] at this; cases this)
    have := B.nod
    rw [List.nodup_cons] at this
    exact this.1 (z ▸ List.mem_map_of_mem hp)

/-- the handler of ValueError that passes -/
theorem catch_pass {c : Cx} {A : Around} {he : Heap} {L Ll e : Addr} {m : List (Str × Value)} {mu : List (Addr × Obj)} {s : Shared} {ol : Obj} {h' : Heap} {k : Nat} {env envL : Env} {p1 p2 p3 : Pos} {Q : Flow → Shared → Prop} {E : Value → Shared → Prop}
    (hfr : A.frames = some [env, envL]) (hf : env.frame = some L) (hfL : envL.frame = some Ll) (hkf : env.scope.kind = .function) (hkL : envL.scope.kind ≠ .module) (hg3 : env.globals = 3) (hb0 : env.builtins = 0) (hve : env.kindOf n_ValueError = some .globalImplicit)
    (B : Bod c he L m mu s) (hol : he.get? Ll = some ol) (hod : ∀ vs, ol.data ≠ .fields vs) (hlo : 270 ≤ Ll) (hzL : he.objs.size ≤ L) (hx : Heap.NewExc s.heap h' e "ValueError")
    (h : ∀ s3 sl, Bod c (reSlot he Ll sl) L m mu s3 → Q .next s3) :
    wpAny c.M A (noteFrame (.ref e) env) (fun _ s2 => wpAny c.M A (setFlight (.ref e) none) (fun _ s3 => wpAny c.M A (handleBy (.ref e) env [.ExceptHandler (some (.Name n_ValueError p1)) none [.Pass p2] p3]) Q E s3) E s2) E { s with heap := h', toks := k } := by
  refine hG fun zP zK => ?_
  obtain ⟨oe, t0, hoe, hce, hde⟩ := hx.there
  obtain ⟨oL, es, ep, hoL, hdL, hrL⟩ := B.ns
  refine zK ?_
  have hnL : ∀ vs, oL.data ≠ .fields vs := fun vs q => by rw [hdL] at q; cases q
  have hLl' : h'.get? Ll = some ol := hx.keeps _ _ (B.keep _ _ hol)
  have hL' : h'.get? L = some oL := hx.keeps _ _ hoL
  have hff : h'.FunFrames (hideAll h' [L, Ll, e]) [env, envL] :=
    ⟨(by rw [hkf]; exact (fun z => nomatch z)), ⟨L, oL, hf, hideAll_none _ (mI 0 rfl), hL', hnL⟩, hkL, ⟨Ll, ol, hfL, hideAll_none _ (mI 1 rfl), hLl', hod⟩, trivial⟩
  unfold noteFrame
  simp only [hf]
  refine wpAny_bind (wpAny_field (s := { s with heap := h', toks := k }) hoe hde (x := .none) rfl ?_)
  rw [if_neg (by simp)]
  refine wpAny_entryW (base := hideAll h' [L, Ll, e]) hfr hff hf hoe (fun b o q => of_hideAll _ q) (hideAll_none _ (mI 2 rfl)) hde (by simp) (a0 := t0) rfl ?_
  intro h2 zz1
  refine hG fun zP zK => ?_
  obtain ⟨st2, ff2, tr2, up2⟩ := zz1
  refine zK ?_
  refine wpAny_setFlight_noneW st2 ff2 tr2 ?_
  intro h3 st3 ff3 tr3 up3
  obtain ⟨slL, e2L⟩ := up2 L oL hL' hnL
  have e3L := up3 L _ e2L hnL
  obtain ⟨sl, e2l⟩ := up2 Ll ol hLl' hod
  have e3l := up3 Ll _ e2l hod
  have B3 : Bod c (reSlot he Ll sl) L m mu { s with heap := h3, toks := k } := B.slots hol hod hlo hzL hx st3 e3l ⟨_, es, ep, e3L, hdL, hrL⟩
  refine wpAny_handleBy_builtin (X := "ValueError") (T := "ValueError") (b := true) (by rw [isSubtype_type]; kernel_rfl) (by rw [isSubtype_type]; kernel_rfl) (by rw [isSubtype_type]; kernel_rfl) ?_
  refine b_glob B3 (gv_ValueError _) hkf hg3 hb0 hve (by kernel_rfl) ?_
  refine ⟨rfl, ?_, ?_⟩
  · refine hG fun zP zK => ?_
    obtain ⟨ob, hob, hcl⟩ := tr3.at.there
    refine zK ?_
    exact ⟨ob, hob, by rw [hcl, hce]⟩
  · refine (if_pos rfl).mpr ?_
    refine wpAny_setFlight_noneW st3 ff3 tr3.at ?_
    intro h4 st4 ff4 tr4 up4
    have e4L := up4 L _ e3L hnL
    have e4l := up4 Ll _ e3l hod
    have B4 : Bod c (reSlot he Ll sl) L m mu { s with heap := h4, toks := k } := B.slots hol hod hlo hzL hx st4 e4l ⟨_, es, ep, e4L, hdL, hrL⟩
    refine wpAny_execs_cons (wpAny_Pass ?_)
    exact wpAny_execs_nil (h _ sl B4)
end Mine
end
section
namespace Mine
open PySem PySem.W PySem.W.X PyProof.Rows PySem.Calls PySem.NumText
open Sem (wp)

noncomputable def relHead (rel : Str) : Str := (Txt.split rel t_dot).headD t_empty
noncomputable def relTail (rel : Str) : List Str := (Txt.split rel t_dot).tail
/-- what system_alias computes -/
noncomputable def aliasS (sys rel ver : Str) : List Str :=
  if sys = t_SunOS then
    if rel.cps.toList < t_five.cps.toList then [sys, rel, ver]
    else match PySem.intText? (relHead rel) with
      | some n => [t_Solaris, Txt.join t_dot (numI (n - 3) :: relTail rel), ver]
      | none => [t_Solaris, rel, ver]
  else [winOf sys, rel, ver]

/-- the release's first word: a number within reach, or refused -/
noncomputable def HeadOk (x : Str) : Prop := x.length ≤ 200 ∧ ((∃ n : Int, PySem.intText? x = some n ∧ 0 ≤ n ∧ n ≤ 100000) ∨ (PySem.intText? x = none ∧ digits? 10 (core (numSeenOf x)) = none ∧ (reprText x).length ≤ 10000))

/-- what stands below a body: all of s but for the slots of a frame -/
structure Off (s : Shared) (Ll : Addr) (ol : Obj) (he : Heap) : Prop where
  keep : ∀ b o, (Sees s).get? b = some o → b ≠ Ll → he.get? b = some o
  at_ : ∃ sl, he.get? Ll = some { ol with slots := sl }
  size : he.objs.size = s.heap.objs.size
theorem Off.none {s : Shared} {Ll : Addr} {ol : Obj} {he : Heap} (O : Off s Ll ol he) {b : Addr} (e : he.get? b = none) : (Sees s).get? b = none := by
  cases q : (Sees s).get? b with
  | none => rfl
  | some o =>
    by_cases hb : b = Ll
    · obtain ⟨sl, z⟩ := O.at_
      rw [hb, z] at e; cases e
    · rw [O.keep b o q hb] at e; cases e
theorem Off.here {s : Shared} {Ll : Addr} {ol : Obj} (h : s.heap.get? Ll = some ol) (hlo : 270 ≤ Ll) : Off s Ll ol (Sees s) :=
  ⟨fun b o e _ => e, ⟨ol.slots, hideAll_get _ h (by simpa using Bod.notTab Ll hlo)⟩, hideAll_size ..⟩
theorem Off.slots {s : Shared} {Ll : Addr} {ol : Obj} (h : s.heap.get? Ll = some ol) (hlo : 270 ≤ Ll) (sl : Array (Option Value)) : Off s Ll ol (reSlot (Sees s) Ll sl) := by
  have h1 : (Sees s).get? Ll = some ol := hideAll_get _ h (by simpa using Bod.notTab Ll hlo)
  refine ⟨fun b o e hb => (Heap.get?_update_other _ _ (Ne.symm hb)).trans e, ⟨sl, Heap.get?_update_self _ h1 ?_⟩, (Heap.SameBut.update ..).1.trans (hideAll_size ..)⟩
  have := (Heap.get?_some_iff.mp h1).2
  cases ol with | mk a b d f => cases d <;> exact this

/-- what a call of system_alias leaves to law -/
structure EvL (c : Cx) (Ll : Addr) (ol : Obj) (s s' : Shared) : Prop where
  inv : SInv c s'
  keep : ∀ b o, s.heap.get? b = some o → b ∉ tabs → b ≠ Ll → s'.heap.get? b = some o
  at_ : ∃ sl, s'.heap.get? Ll = some { ol with slots := sl }
  size : s.heap.objs.size ≤ s'.heap.objs.size
theorem Off.ev {c : Cx} {s s' : Shared} {L Ll : Addr} {ol : Obj} {he : Heap} {m : List (Str × Value)} {mu : List (Addr × Obj)} (O : Off s Ll ol he) (B : Bod c he L m mu s') : EvL c Ll ol s s' := by
  refine ⟨B.inv, fun b o e n hb => B.keep _ _ (O.keep b o (hideAll_get _ e (by simpa using n)) hb), ?_, by have := B.size; rwa [O.size] at this⟩
  obtain ⟨sl, z⟩ := O.at_
  exact ⟨sl, B.keep _ _ z⟩

theorem split_cons (x y : Str) : ∃ a r, Txt.split x y = a :: r := by
  cases e : Txt.split x y with
  | cons a r => exact ⟨a, r, rfl⟩
  | nil =>
    unfold Txt.split at e
    split at e
    · cases e
    · split at e
      · cases e
      · have := length_partsBetween x (Builtin.Str.occurrences x y 0 x.length (x.length + 1)) y.length
        rw [e] at this
        simp at this
theorem sys_spec {c : Cx} {k : Nat} {A : Around} {s : Shared} {sys rel ver : Str} {t1 t2 t3 : Tok} {Ll : Addr} {ol : Obj} {envL : Env} {Q : Value → Shared → Prop} {E : Value → Shared → Prop} (I : SInv c s) (R : Room (k + 1) A)
    (hfr : A.frames = some [envL]) (hfL : envL.frame = some Ll) (hkL : envL.scope.kind ≠ .module) (hol : s.heap.get? Ll = some ol) (hod : ∀ vs, ol.data ≠ .fields vs) (hlo : 270 ≤ Ll)
    (hrl : rel.length ≤ 200) (hok : HeadOk (relHead rel)) (hj : ((relTail rel).map (·.length)).sum + (relTail rel).length ≤ 1000)
    (h : ∀ T v1 v2 v3 s', StrsAre [v1, v2, v3] (aliasS sys rel ver) → EvL c Ll ol s s' → s.heap.get? T = none → 270 ≤ T → s'.heap.get? T = some (tupO [v1, v2, v3]) → Q (.ref T) s') :
    wpC c.M A (call (.ref 45) [.str sys t1, .str rel t2, .str ver t3]) Q E s := by
  refine enterC [(n_version, .str ver t3), (n_release, .str rel t2), (n_system, .str sys t1)] [] I R (by walk_at "fn") ?_
  intro L s1 eL B kp R'
  have hzL : (Sees s).objs.size ≤ L := by rw [hideAll_size, eL]; exact Nat.le_refl _
  have hfr' : (A.deeper (envF c.w.params 45 L)).frames = some [envF c.w.params 45 L, envL] := by show A.frames.map _ = _; rw [hfr]; rfl
  change Bod c (Sees s) _ _ _ _ at B
  have O0 := Off.here hol hlo
  have last : ∀ T v1 v2 v3 s5 he m mu, Bod c he L m mu s5 → Off s Ll ol he → (T, tupO [v1, v2, v3]) ∈ mu → StrsAre [v1, v2, v3] (aliasS sys rel ver) → Q (.ref T) s5 := by
    intro T v1 v2 v3 s5 he m mu B5 O hin eq
    have hn := O.none (B5.hidM (T, _) hin)
    have hlT := B5.lowM (T, _) hin
    refine h T _ _ _ s5 eq (O.ev B5) ?_ hlT (B5.own (T, _) hin)
    cases q : s.heap.get? T with
    | none => rfl
    | some o =>
      have : (Sees s).get? T = some o := hideAll_get _ q (by simpa using Bod.notTab T hlT)
      rw [this] at hn; cases hn
  have fin : ∀ he m mu s2 y1 y2 u1 u2, Bod c he L m mu s2 → Off s Ll ol he → m.lookup n_system = some (.str y1 u1) → m.lookup n_release = some (.str y2 u2) → m.lookup n_version = some (.str ver t3) → aliasS sys rel ver = [y1, y2, ver] →
      wpAny c.M (A.deeper (envF c.w.params 45 L)) (execs ((bodyF c.w.params 45).drop 1) (envF c.w.params 45 L)) (fun fl s' => Q (match fl with | .ret v => v | _ => .none) s') (fun _ _ => False) s2 := by
    intro he m mu s2 y1 y2 u1 u2 B2 O m1 m2 m3 eq
    refine sK ?_
    refine wpAny_Return_some ?_
    refine e_tupleQ fun q1 e1 hq1 => ?_
    refine a_cons ?_
    refine b_name B2 (envF_locals _ _ _) (m1) (by kernel_rfl) (by kernel_rfl) (by kernel_rfl) ?_
    refine a_cons ?_
    refine b_name B2 (envF_locals _ _ _) (m2) (by kernel_rfl) (by kernel_rfl) (by kernel_rfl) ?_
    refine a_cons ?_
    refine b_name B2 (envF_locals _ _ _) (m3) (by kernel_rfl) (by kernel_rfl) (by kernel_rfl) ?_
    refine a_nil ?_
    refine hq1 _ _ _ _ _ _ (by walk_at "sz") B2 ?_
    intro T s5 B5 hT
    exact last T _ _ _ s5 _ _ _ B5 O (List.mem_cons_self ..) (by rw [eq]; exact .cons _ _ (.cons _ _ (.cons _ _ .nil)))
  refine wpC_execs_cons ?_
  refine wpC_If ?_
  refine wpC_isTrue_Compare1 ?_
  refine wpC_of ?_
  refine b_name B (envF_locals _ _ _) (by rfl) (by kernel_rfl) (by kernel_rfl) (by kernel_rfl) ?_
  refine b_str B ?_
  intro u2 s2 B2
  refine b_eq_str ?_
  refine b_bool ?_
  by_cases hs : sys = t_SunOS
  · rw [decide_eq_true hs]
    refine (if_pos rfl).mpr ?_
    refine hG fun zP zK => ?_
    obtain ⟨x0, xr, hsp⟩ := split_cons rel t_dot
    refine zK ?_
    have ehd : relHead rel = x0 := by unfold relHead; rw [hsp]; rfl
    have etl : relTail rel = xr := by unfold relTail; rw [hsp]; rfl
    rw [etl] at hj
    rw [ehd] at hok
    refine wpC_execs_cons ?_
    refine wpC_of ?_
    refine wpAny_If ?_
    refine wpAny_isTrue_Compare1 ?_
    refine b_name B2 (envF_locals _ _ _) (by rfl) (by kernel_rfl) (by kernel_rfl) (by kernel_rfl) ?_
    refine b_str B2 ?_
    intro u3 s3 B3
    refine P.lt_str ?_
    refine b_bool ?_
    by_cases hlt : rel.cps.toList < t_five.cps.toList
    · rw [decide_eq_true hlt]
      refine (if_pos rfl).mpr ?_
      refine sK ?_
      refine wpAny_Return_some ?_
      refine e_tupleQ fun q2 e2 hq2 => ?_
      refine a_cons ?_
      refine b_name B3 (envF_locals _ _ _) (by rfl) (by kernel_rfl) (by kernel_rfl) (by kernel_rfl) ?_
      refine a_cons ?_
      refine b_name B3 (envF_locals _ _ _) (by rfl) (by kernel_rfl) (by kernel_rfl) (by kernel_rfl) ?_
      refine a_cons ?_
      refine b_name B3 (envF_locals _ _ _) (by rfl) (by kernel_rfl) (by kernel_rfl) (by kernel_rfl) ?_
      refine a_nil ?_
      refine hq2 _ _ _ _ _ _ (by walk_at "sz") B3 ?_
      intro T s5 B5 hT
      refine last T _ _ _ s5 _ _ _ B5 O0 (List.mem_cons_self ..) ?_
      unfold aliasS
      rw [if_pos hs, if_pos hlt]
      exact .cons _ _ (.cons _ _ (.cons _ _ .nil))
    rw [decide_eq_false hlt]
    refine (if_neg Bool.false_ne_true).mpr ?_
    refine wpAny_execs_nil ?_
    refine wpC_execs_cons ?_
    refine wpC_of ?_
    refine wpAny_Assign_Name ?_
    refine c_attr ?_
    refine b_name B3 (envF_locals _ _ _) (by rfl) (by kernel_rfl) (by kernel_rfl) (by kernel_rfl) ?_
    with_reducible refine ms_split ?_
    refine cw_builtin ?_
    refine a_cons ?_
    refine b_str B3 ?_
    intro u4 s4 B4
    refine a_nil ?_
    refine call_split (by decide) (by omega) ?_
    intro its k5 hits
    change StrsAre its.toList (Txt.split rel t_dot) at hits
    rw [hsp] at hits
    have B5 := B4.alloc (lstO its 0) k5 rfl
    generalize s4.heap.objs.size = DL at B5 ⊢
    refine b_store B5 (envF_locals _ _ _) (by kernel_rfl) (by kernel_rfl) ?_
    intro s6 B6
    clear B2 B3 B4 B5
    have hsz : its.size = xr.length + 1 := by have := strsAre_length hits; rwa [Array.length_toList] at this
    have hlen : xr.length ≤ 1000 := by omega
    refine hG fun zP zK => ?_
    obtain ⟨t0, hz0⟩ : ∃ t, its[0]? = some (.str x0 t) := by
      have h0 : 0 < its.size := by omega
      obtain ⟨y, t, e1, e2⟩ := strsAre_back hits 0 its[0] (by rw [Array.getElem?_toList]; exact Array.getElem?_eq_getElem h0)
      have : x0 = y := by simpa using e1
      exact ⟨t, by rw [Array.getElem?_eq_getElem h0, e2, this]⟩
    refine zK ?_
    have ealt : aliasS sys rel ver = (match PySem.intText? x0 with | some n => [t_Solaris, Txt.join t_dot (numI (n - 3) :: xr), ver] | none => [t_Solaris, rel, ver]) := by
      unfold aliasS
      rw [if_pos hs, if_neg hlt, ehd, etl]
    refine wpC_execs_cons ?_
    refine wpC_mono (Q := fun f s' => f = .next ∧ ∃ he m mu y2 u2, Bod c he L m mu s' ∧ Off s Ll ol he ∧ m.lookup n_release = some (.str y2 u2) ∧ m.lookup n_version = some (.str ver t3) ∧ aliasS sys rel ver = [t_Solaris, y2, ver]) (E := fun _ _ => False) ?_ ?_ (fun _ _ x => x)
    · refine wpC_If ?_
      refine wpC_of ?_
      refine wpAny_isTrue_value ?_
      refine b_name B6 (envF_locals _ _ _) (by rfl) (by kernel_rfl) (by kernel_rfl) (by kernel_rfl) ?_
      refine wpAny_truthy_list (items := its) ⟨_, B6.own (DL, lstO its 0) (mI 0 rfl), rfl, _, rfl⟩ (by omega) ?_
      have hne : (!its.isEmpty) = true := by
        rw [Array.isEmpty, hsz]; simp
      rw [hne]
      refine (if_pos rfl).mpr ?_
      have B7 := B6.toks (s6.toks + 1 + 1)
      refine wpC_execs_cons ?_
      refine wpC_Try ?_
      refine wpC_execs_cons ?_
      refine wpC_Assign_Name ?_
      refine cC_name ?_
      refine b_glob B7 (gv_int _) (by kernel_rfl) (by kernel_rfl) (by kernel_rfl) (by kernel_rfl) (by kernel_rfl) ?_
      refine cwC_type ?_
      refine a_cons ?_
      refine e_sub "list" "list.__getitem__" lk_lst ?_
      refine b_name B7 (envF_locals _ _ _) (by rfl) (by kernel_rfl) (by kernel_rfl) (by kernel_rfl) ?_
      refine b_int B7 ?_
      intro t8 s8 B8
      have g8 := B8.own (DL, lstO its 0) (mI 0 rfl)
      refine ⟨⟨_, g8, rfl⟩, ?_⟩
      refine wpAny_getItem_list (x := .str x0 t0) ⟨_, g8, rfl, _, rfl⟩ (by decide) (by decide) hz0 ?_
      refine a_nil ?_
      obtain ⟨hl0, ⟨n, hn, hn0, hn1⟩ | ⟨hno, hdig, hrep⟩⟩ := hok
      · refine wpC_of ?_
        refine KIN.call_text hn (by omega) ?_
        have B9 := B8.toks (s8.toks + 1)
        refine b_store B9 (envF_locals _ _ _) (by kernel_rfl) (by kernel_rfl) ?_
        intro s10 B10
        refine wpC_of ?_
        refine wpAny_execs_nil ?_
        refine sK ?_
        refine wpAny_Assign_Name ?_
        refine wpAny_BinOp ?_
        refine b_name B10 (envF_locals _ _ _) (by rfl) (by kernel_rfl) (by kernel_rfl) (by kernel_rfl) ?_
        refine b_int B10 ?_
        intro t11 s11 B11
        refine PyProof.Rows.sub_int ?_
        have B12 := B11.toks (s11.toks + 1)
        refine b_store B12 (envF_locals _ _ _) (by kernel_rfl) (by kernel_rfl) ?_
        intro s13 B13
        refine sK ?_
        refine wpAny_Assign_Subscript ?_
        refine c_name ?_
        refine b_glob B13 (gv_str _) (by kernel_rfl) (by kernel_rfl) (by kernel_rfl) (by kernel_rfl) (by kernel_rfl) ?_
        refine cw_type ?_
        refine a_cons ?_
        refine b_name B13 (envF_locals _ _ _) (by rfl) (by kernel_rfl) (by kernel_rfl) (by kernel_rfl) ?_
        refine a_nil ?_
        refine P.str_of_int (log2_small (Nat.lt_of_le_of_lt (m := 100003) (by omega) (by decide))) ?_
        have B14 := B13.toks (s13.toks + 1)
        refine b_name B14 (envF_locals _ _ _) (by rfl) (by kernel_rfl) (by kernel_rfl) (by kernel_rfl) ?_
        refine b_int B14 ?_
        intro t15 s15 B15
        have g15 := B15.own (DL, lstO its 0) (mI 0 rfl)
        refine wpAny_setItem_list ⟨_, g15, rfl, _, rfl⟩ (by decide) (by decide) (by omega) ?_
        intro h16 hi16 hsb
        refine hG fun zP zK => ?_
        obtain ⟨o16, g16, c16, n16, d16⟩ := hi16
        refine zK ?_
        have B16 := Bod.turn1 (pre := []) (post := []) (t := s15.toks) B15 hsb g16
        refine sK ?_
        refine wpAny_Assign_Name ?_
        refine c_attr ?_
        refine b_str B16 ?_
        intro t17 s17 B17
        with_reducible refine ms_join ?_
        refine cw_builtin ?_
        refine a_cons ?_
        refine b_name B17 (envF_locals _ _ _) (by rfl) (by kernel_rfl) (by kernel_rfl) (by kernel_rfl) ?_
        refine a_nil ?_
        have hits2 : StrsAre (its.setIfInBounds 0 (.str (numI (n - 3)) s13.toks)).toList (numI (n - 3) :: xr) := by
          rw [Array.toList_setIfInBounds]
          cases hq : its.toList with
          | nil => rw [hq] at hits; cases hits
          | cons v vs =>
            rw [hq] at hits
            cases hits with
            | cons _ _ r => exact .cons _ _ r
        have hnl := len_str_of_int (n - 3)
        refine join_list (ys := numI (n - 3) :: xr) ⟨_, B17.own (DL, o16) (mI 0 rfl), c16, _, d16⟩ hits2 ?_ ?_
        · simp only [List.map_cons, List.sum_cons, List.length_cons]
          have e1 : t_dot.length = 1 := rfl
          rw [e1]
          show (Str.ofString (toString (n - 3))).length + _ + _ ≤ _
          omega
        intro t18 k18
        have B18 := B17.toks k18
        refine b_store B18 (envF_locals _ _ _) (by kernel_rfl) (by kernel_rfl) ?_
        intro s19 B19
        refine wpAny_execs_nil ?_
        refine wpC_of ?_
        refine wpAny_execs_nil ?_
        refine ⟨rfl, _, _, _, _, _, B19, O0, look_here, ?_, ?_⟩
        · exact look_there (by decide) (look_there (by decide) (look_there (by decide) (look_there (by decide) look_here)))
        · rw [ealt, hn]
      · refine int_refuses R'.handled hl0 (bad_of hdig) hrep ?_
        intro h9 k9 e hx
        refine catch_pass hfr' rfl hfL (by kernel_rfl) hkL (by kernel_rfl) (by kernel_rfl) (by kernel_rfl) B8 (hideAll_get _ hol (by simpa using Bod.notTab Ll hlo)) hod hlo hzL hx ?_
        intro s10 sl B10
        refine wpC_of ?_
        refine wpAny_execs_nil ?_
        refine ⟨rfl, _, _, _, _, _, B10, Off.slots hol hlo sl, look_there (by decide) (look_there (by decide) look_here), look_there (by decide) look_here, ?_⟩
        rw [ealt, hno]
    · intro f s7 zz1
      refine hG fun zP zK => ?_
      obtain ⟨rfl, he, m, mu, y2, u7, B7, O7, m1, m2, eq⟩ := zz1
      refine zK ?_
      dsimp only [seqK, seqC]
      refine wpC_of ?_
      refine sK ?_
      refine wpAny_If ?_
      refine wpAny_isTrue_Compare1 ?_
      refine b_name B7 (envF_locals _ _ _) (m1) (by kernel_rfl) (by kernel_rfl) (by kernel_rfl) ?_
      refine b_str B7 ?_
      intro u8 s8 B8
      refine P.lt_str ?_
      refine b_bool ?_
      have both : ∀ u9 s9, Bod c he L ((n_system, .str t_Solaris u9) :: m) mu s9 → wpC c.M (A.deeper (envF c.w.params 45 L)) (execs ((bodyF c.w.params 45).drop 1) (envF c.w.params 45 L)) (fun fl s' => Q (match fl with | .ret v => v | _ => .none) s') (fun _ _ => False) s9 := fun u9 s9 B9 =>
        wpC_of (fin _ _ _ _ _ _ _ _ B9 O7 look_here (look_there (by decide) m1) (look_there (by decide) m2) eq)
      cases hc : decide (y2.cps.toList < t_six.cps.toList)
      · refine (if_neg Bool.false_ne_true).mpr ?_
        refine sK ?_
        refine wpAny_Assign_Name ?_
        refine b_str B8 ?_
        intro u9 s9 B9
        refine b_store B9 (envF_locals _ _ _) (by kernel_rfl) (by kernel_rfl) ?_
        intro s10 B10
        refine wpAny_execs_nil ?_
        refine wpAny_execs_nil ?_
        exact both _ _ B10
      · refine (if_pos rfl).mpr ?_
        refine sK ?_
        refine wpAny_Assign_Name ?_
        refine b_str B8 ?_
        intro u9 s9 B9
        refine b_store B9 (envF_locals _ _ _) (by kernel_rfl) (by kernel_rfl) ?_
        intro s10 B10
        refine wpAny_execs_nil ?_
        refine wpAny_execs_nil ?_
        exact both _ _ B10
  · rw [decide_eq_false hs]
    refine (if_neg Bool.false_ne_true).mpr ?_
    refine wpC_of ?_
    refine sK ?_
    refine wpAny_If ?_
    refine wpAny_isTrue_Compare1 ?_
    refine b_name B2 (envF_locals _ _ _) (by rfl) (by kernel_rfl) (by kernel_rfl) (by kernel_rfl) ?_
    refine e_tupleQ fun q3 e3 hq3 => ?_
    refine a_cons ?_
    refine b_str B2 ?_
    intro u3 s3 B3
    refine a_cons ?_
    refine b_str B3 ?_
    intro u4 s4 B4
    refine a_nil ?_
    refine hq3 _ _ _ _ _ _ (by walk_at "sz") B4 ?_
    intro T s5 B5 hT
    refine in_wins (B5.own (T, _) (List.mem_cons_self ..)) ?_
    refine b_bool ?_
    by_cases hw : sys = t_win32 ∨ sys = t_win16
    · rw [decide_eq_true hw]
      refine (if_pos rfl).mpr ?_
      refine sK ?_
      refine wpAny_Assign_Name ?_
      refine b_str B5 ?_
      intro u6 s6 B6
      refine b_store B6 (envF_locals _ _ _) (by kernel_rfl) (by kernel_rfl) ?_
      intro s7 B7
      refine wpAny_execs_nil ?_
      refine wpAny_execs_nil ?_
      refine wpC_of ?_
      refine fin _ _ _ _ _ _ _ _ B7 O0 look_here (look_there (by decide) (look_there (by decide) look_here)) (look_there (by decide) look_here) ?_
      unfold aliasS
      rw [if_neg hs]
      rw [show winOf sys = t_Windows from if_pos hw]
    · rw [decide_eq_false hw]
      refine (if_neg Bool.false_ne_true).mpr ?_
      refine wpAny_execs_nil ?_
      refine wpAny_execs_nil ?_
      refine wpC_of ?_
      refine fin _ _ _ _ _ _ _ _ B5 O0 (look_there (by decide) (look_there (by decide) look_here)) (look_there (by decide) look_here) look_here ?_
      unfold aliasS
      rw [if_neg hs]
      rw [show winOf sys = sys from if_neg hw]
end Mine
end
section
namespace Mine
open PySem PySem.W PySem.W.X PyProof.Rows PySem.Calls PySem.NumText
open Sem (wp)

section
variable {c : Cx} {k : Nat} {A : Around} {s₀ s : Shared} {L : Addr} {Q : Flow → Shared → Prop} {E : Value → Shared → Prop}
theorem law1 {o : Obj} {items : Array Value} {n : Nat} {ns : List Int} (R' : Room (k + 1) A) (B : Bod c (Sees s₀) L [(n_script, .ref 269)] [] s) (hzL : (Sees s₀).objs.size ≤ L)
    (hsc : (Sees s₀).get? 269 = some o) (hoc : o.cls = .type "list") (hod : o.data = .seq items n) (hns : ∀ (j : Nat) (x : Int), ns[j]? = some x → ∃ t, items[j]? = some (.int x t)) (hnl : items.size = ns.length) (hn63 : ns.length ≤ 63)
    (h : ∀ DM ysM epM mu sh t s', MachsIn mu ysM (machsOf ns) → (DM, lstO ysM epM) ∈ mu → Bod c (Sees s₀) L [(n_machines, .ref DM), (n_shift, .int sh t), (n_script, .ref 269)] mu s' →
      wpC c.M A (execs ((bodyF c.w.params 268).drop 1) (envF c.w.params 268 L)) Q E s') :
    wpC c.M A (execs (bodyF c.w.params 268) (envF c.w.params 268 L)) Q E s := by
  refine wpC_execs_cons ?_
  refine wpC_of ?_
  refine Assign_Tuple_swapped (names := [n_machines, n_shift]) ?_ (by kernel_rfl) (by kernel_rfl)
  refine e_tupleQ fun q1 e1 hq1 => ?_
  refine a_cons ?_
  refine c_name ?_
  refine b_glob B (gv_law_machines_u _) (by kernel_rfl) (by kernel_rfl) (by kernel_rfl) (by kernel_rfl) (by kernel_rfl) ?_
  refine cw_def (fo_232 _) (fd_232 _) ?_
  refine a_cons ?_
  refine b_name B (envF_locals _ _ _) (by rfl) (by kernel_rfl) (by kernel_rfl) (by kernel_rfl) ?_
  refine a_nil ?_
  refine ⟨B.inv, ?_⟩
  refine machines_spec B.inv R' (B.keep _ _ hsc) hoc hod hns hnl hn63 ?_
  intro DM ysM epM nest s2 M2 hM
  have B2 := B.turned (mu := []) M2
  simp only [List.append_nil, List.nil_append] at B2
  refine a_cons ?_
  refine c_name ?_
  refine b_glob B2 (gv_sum _) (by kernel_rfl) (by kernel_rfl) (by kernel_rfl) (by kernel_rfl) (by kernel_rfl) ?_
  refine cw_builtin ?_
  refine a_cons ?_
  refine e_sub "list" "list.__getitem__" lk_lst ?_
  refine b_name B2 (envF_locals _ _ _) (by rfl) (by kernel_rfl) (by kernel_rfl) (by kernel_rfl) ?_
  refine e_slice ?_
  rw [evalPart_some, evalPart_none]
  refine wpAny_pure ?_
  refine b_int B2 ?_
  intro t17 s17 B17
  refine ⟨_, _, _, _, B17, ?_⟩
  intro a18 s18 B18 k18 hs18
  have g269 : s18.heap.get? 269 = some o := B18.keep _ _ hsc
  refine ⟨⟨_, g269, hoc⟩, ?_⟩
  refine getItem_lst ⟨_, g269, hoc⟩ ?_
  refine getSlice_body ⟨_, g269, _, hod⟩ hs18 .none (.int _ _) ?_ (by rw [sizeLine_val, hnl]; lia)
  refine ⟨_, rfl, ?_⟩
  have epk : slicePick items none (some (5 : Nat)) none = (items.toList.take 5).toArray := slicePick_upto' items 5
  have epk : slicePick items none (some 5) none = (items.toList.take 5).toArray := epk
  rw [epk]
  have B19 := B18.alloc (lstO (items.toList.take 5).toArray 0) s18.toks rfl
  generalize s18.heap.objs.size = LL at B19 ⊢
  refine a_nil ?_
  have hall : AllInts (items.toList.take 5).toArray := by
    intro v hv
    have hv : v ∈ items.toList := List.mem_of_mem_take (by simpa using hv)
    obtain ⟨j, hj, rfl⟩ := List.mem_iff_getElem.mp hv
    have hj' : j < ns.length := by rw [← hnl, ← Array.length_toList]; exact hj
    obtain ⟨t, e⟩ := hns j ns[j] (List.getElem?_eq_getElem hj')
    rw [← Array.getElem?_toList, List.getElem?_eq_getElem hj] at e
    exact ⟨_, t, Option.some.inj e⟩
  obtain ⟨xs, hxs⟩ := hall.items
  refine sum_intListG (xs := xs) R'.handled ⟨_, B19.own (LL, lstO (items.toList.take 5).toArray 0) (List.mem_cons_self ..), rfl, _, by rw [← hxs]⟩ ?_
  intro h20 k20 t20 kp20
  have B20 := B19.kept (h' := h20) (t := k20) kp20 hzL
  refine a_nil ?_
  refine hq1 _ _ _ _ _ _ (by walk_at "sz") B20 ?_
  intro T s4 B4 hT
  refine unpackItems_tuple (items := #[.ref DM, .int (preSum (numAt xs) xs.size) t20]) R'.handled ⟨_, B4.own (T, tupO [.ref DM, .int (preSum (numAt xs) xs.size) t20]) (List.mem_cons_self ..), rfl, _, rfl⟩ ?_
  intro h5 x5
  have B5 := B4.kept (h' := h5) (t := s4.toks) (fun b o e => x5 b o (Nat.ne_of_lt (Heap.lt_size e)) e) hzL
  refine assignInOrder_cons ?_
  refine bindName_ ?_
  refine b_store B5 (envF_locals _ _ _) (by kernel_rfl) (by kernel_rfl) ?_
  intro s6 B6
  refine assignInOrder_cons ?_
  refine bindName_ ?_
  refine b_store B6 (envF_locals _ _ _) (by kernel_rfl) (by kernel_rfl) ?_
  intro s7 B7
  refine assignInOrder_nil ?_
  refine h DM ysM epM _ _ _ _ ?_ ?_ B7
  · exact hM.mono fun p hp => by simp [hp]
  · simp
end
end Mine
end
section
namespace Mine
open PySem PySem.W PySem.W.X PyProof.Rows PySem.Calls

/-- a name bound to a list comprehension over a plain list -/
theorem s_comp {c : Cx} {A : Around} {E : Value → Shared → Prop} {s : Shared} {env : Env} {elt iter : Expr} {x y : Str} {px py pos spos : Pos} {scope : Scope} {he : Heap} {L : Addr} {Q : Flow → Shared → Prop} (F : Nat → Value → List (Addr × Obj) → Prop)
    (hsw : swapsWith (.ListComp elt [⟨.Name x px, iter, [], 0⟩] scope pos) (some (.Name y py)) spos.line env = pure true)
    (hh : A.handled = none) (hkind : scope.kind = .function) (hx : scope.names.lookup x = some .local)
    (hfree : ∀ y ∈ scope.names, y.2 ≠ .free) (hnames : ∀ y ∈ scope.names, y.2 = .local → scope.names.lookup y.1 = some .local) (hcell : ∀ y ∈ scope.names, y.2 ≠ .cell)
    (hL : env.locals = L) (hkf : env.scope.kind = .function) (hly : env.kindOf y = some .local) (hzE : he.objs.size ≤ L)
    (h : ∀ (K : Value → Shared → Prop) (E' : Value → Shared → Prop), (∀ l items o m mu s₁, Bod c he L m mu s₁ → s₁.heap.get? l = some o → o.cls = .type "list" → (∃ ep, o.data = .seq items ep) → 270 ≤ l → items.size ≤ 1000 → (∀ j v C m mu s₂ E', items[j]? = some v → s₁.heap.objs.size ≤ C → Bod c (Sees s₁) C ((x, v) :: m) mu s₂ →
        wpAny c.M A (eval elt (compEnv scope C env)) (fun y s₃ => ∃ nw, F j y nw ∧ (∀ p ∈ nw, s₁.heap.objs.size ≤ p.1) ∧ Bod c (Sees s₁) C ((x, v) :: m) (nw ++ mu) s₃) E' s₂) → (∀ D ys ep nest s', Bod c he L ((y, .ref D) :: m) ((D, lstO ys ep) :: (nest ++ mu)) s' → ys.size = items.size → (∀ j v, ys[j]? = some v → ∃ nw, F j v nw ∧ ∀ p ∈ nw, p ∈ nest) → Q .next s') → K (.ref l) s₁) → wpAny c.M A (eval iter env) K E' s)
    (hs : ∀ x, foldedSetIterable iter env x = pure x := by intro _; rfl) :
    wpAny c.M A (exec (.Assign [.Name y py] (.ListComp elt [⟨.Name x px, iter, [], 0⟩] scope pos) spos) env) Q E s := by
  rw [exec_Assign_Name_used _ _ _ _ hsw]
  refine wpAny_bind (wpAny_standAt (wpAny_bind ?_))
  show wpAny _ A (do let _ ← comprehension (.ListComp elt [⟨.Name x px, iter, [], 0⟩] scope pos) scope env _ (newList []) false (eval iter env) (some (assign (.Name y py) env))) _ _ s
  refine wpAny_bind (wpAny_mono (wpAny_comprehension_use (Q := fun _ s' => Q .next s') rfl hs hfree hkind hnames (h _ _ fun l items o mE muE s₁ BE ho hoc hod' hlo hsz helt hQ => ?_))
    (fun _ s' hq => wpAny_pure (wpAny_pure hq)) fun _ _ e => e)
  obtain ⟨epo, hod⟩ := hod'
  have I := BE.inv
  refine wpAny_pyIter_list ⟨o, ho, hoc, epo, hod⟩ ?_
  have hlt : l < s₁.heap.objs.size := Heap.lt_size ho
  refine wpAny_newObj_type ?_
  refine wpAny_newFunctionEnv hcell (by intro y hy; simp at hy) (fun h₁ hns₁ hsb₁ => ?_) hkind
  dsimp only at hns₁ hsb₁ ⊢
  have z1 : (s₁.heap.push (liO l 0)).objs.size = s₁.heap.objs.size + 1 := Heap.size_push ..
  have z2 : ((s₁.heap.push (liO l 0)).push (lstO #[] 0)).objs.size = s₁.heap.objs.size + 2 := by rw [Heap.size_push, z1]
  change h₁.Ns ((s₁.heap.push (liO l 0)).push (lstO #[] 0)).objs.size _ at hns₁
  change Heap.SameBut ((s₁.heap.push (liO l 0)).push (lstO #[] 0)).objs.size (((s₁.heap.push (liO l 0)).push (lstO #[] 0)).push _) h₁ at hsb₁
  rw [z2] at hns₁ hsb₁
  have up : ∀ b o, b ≠ s₁.heap.objs.size + 2 → ((s₁.heap.push (liO l 0)).push (lstO #[] 0)).get? b = some o → h₁.get? b = some o := fun b o hb e => hsb₁.extBut b o hb (Heap.get?_push_of_some _ e)
  have k1 : Kept s₁.heap h₁ := fun b o e => up b o (fun q => absurd (Heap.lt_size e) (by rw [q]; exact Nat.not_lt.mpr (Nat.le_add_right _ 2))) (Heap.get?_push_of_some _ (Heap.get?_push_of_some _ e))
  have hz1 : s₁.heap.objs.size ≤ h₁.objs.size := Nat.le_trans (Nat.le_add_right _ 2) (Nat.le_of_lt hns₁.lt)
  have gI : h₁.get? s₁.heap.objs.size = some (liO l 0) := up _ _ (by lia) (Heap.get?_push_of_some _ (Heap.get?_push_size _ rfl))
  have gD : h₁.get? (s₁.heap.objs.size + 1) = some (lstO #[] 0) := up _ _ (by lia) (by rw [← z1]; exact Heap.get?_push_size _ rfl)
  have fresh : ∀ a, s₁.heap.objs.size ≤ a → (Sees s₁).get? a = none := fun a ha => by
    cases e : (Sees s₁).get? a with
    | none => rfl
    | some o' => exact absurd (Heap.lt_size (of_hideAll _ e)) (Nat.not_lt.mpr ha)
  have B0 : Bod c (Sees s₁) (s₁.heap.objs.size + 2) [] [(s₁.heap.objs.size, liO l 0), (s₁.heap.objs.size + 1, lstO #[] 0)] { s₁ with heap := h₁, toks := s₁.toks + ([] : List (Str × Value)).length } := by
    have hI := I.size
    refine ⟨I.keeps k1 hz1, hns₁, fun b o e => k1 b o (of_hideAll _ e), hide_tabs, fresh _ (Nat.le_add_right _ 2), ?_, ?_, ?_, Nat.le_trans hI (Nat.le_add_right _ 2), ?_, by rw [hideAll_size]; exact hz1⟩
    · intro p hp
      simp only [List.mem_cons, List.not_mem_nil, or_false] at hp
      rcases hp with rfl | rfl
      · exact fresh _ (Nat.le_refl _)
      · exact fresh _ (Nat.le_succ _)
    · intro p hp
      simp only [List.mem_cons, List.not_mem_nil, or_false] at hp
      rcases hp with rfl | rfl
      · exact gI
      · exact gD
    · simp
    · intro p hp
      simp only [List.mem_cons, List.not_mem_nil, or_false] at hp
      rcases hp with rfl | rfl
      · exact hI
      · exact Nat.le_succ_of_le hI
  have hzL : (Sees s₁).objs.size ≤ s₁.heap.objs.size + 2 := by rw [hideAll_size]; exact Nat.le_add_right _ 2
  have hlst : ∀ (L : Addr) m mu s₂, Bod c (Sees s₁) L m mu s₂ → SeqAt s₂.heap l items := fun L m mu s₂ B => ⟨o, B.keep _ _ (hideAll_get _ ho (by rw [List.append_nil]; exact Bod.notTab l hlo)), epo, hod⟩
  generalize hC : s₁.heap.objs.size + 2 = C at *
  have hCle : s₁.heap.objs.size ≤ C := by rw [← hC]; exact Nat.le_add_right _ 2
  have loop : codeAny c.M A (.compLoop (.ListComp elt [⟨.Name x px, iter, [], 0⟩] scope pos) 0 (.ref s₁.heap.objs.size) (.ref (s₁.heap.objs.size + 1)) (compEnv scope C env))
      (fun r s' => match r with | .ok _ => wpAny c.M A (assign (.Name y py) env (.ref (s₁.heap.objs.size + 1))) (fun _ s'' => ∃ m, s''.heap.Ns C m ∧ ∀ h', Heap.SameBut C s''.heap h' → Q .next { s'' with heap := h' }) E s' | .error x => ∃ m, s'.heap.Ns C m ∧ ∀ h', Heap.SameBut C s'.heap h' → wpAny c.M A (passOn "comprehension.variables-let-go" x (compEnv scope C env)) (fun (_ : Value) s' => Q .next s') E { s' with heap := h' }) { s₁ with heap := h₁, toks := s₁.toks + ([] : List (Str × Value)).length } := by
    refine codeAny_compLoop_list (CmpI c s₁ C l items F) ?_ items.size
      ⟨0, liO l 0, #[], 0, [], [], rfl, Nat.zero_le _, rfl, rfl, rfl, fun i v e => by simp at e, fun p hp => (nomatch hp), B0⟩
    intro n s₂ zz1
    refine hG fun zP zK => ?_
    obtain ⟨j, oi, ys, ep, nest, m, rfl, hj, hc, hd, hys, hF, hnst, B⟩ := zz1
    refine zK ?_
    have hit : s₂.heap.IsListIter s₁.heap.objs.size l j := ⟨oi, B.own (s₁.heap.objs.size, oi) (mI 0 rfl), hc, hd⟩
    by_cases hjl : j < items.size
    · refine next_item hit (hlst _ _ _ _ B) (Array.getElem?_eq_getElem hjl) ?_
      intro h2 hit2 sb2
      refine hG fun zP zK => ?_
      obtain ⟨o2, e2, c2, d2⟩ := hit2
      refine zK ?_
      have B1 := B.turn1 (pre := []) (t := s₂.toks) sb2 e2
      dsimp only
      refine wpAny_assign_Name ?_
      refine b_store B1 rfl hkind hx ?_
      intro s3 B3
      refine wpAny_mono (helt j items[j] C m _ s3 _ (Array.getElem?_eq_getElem hjl) hCle B3) (fun y s₄ h₄ => ?_) fun _ _ e => e
      refine hG fun zP zK => ?_
      obtain ⟨nw, hFy, hnw, B4⟩ := h₄
      refine zK ?_
      refine b_append (pre := nw ++ [(s₁.heap.objs.size, o2)]) (post := nest) B4 (by rw [List.append_assoc]; rfl) (by rw [hys, sizeLine_val]; lia) ?_
      intro ep' s5 B5
      have B6 := B5.perm (mu' := (s₁.heap.objs.size, o2) :: (s₁.heap.objs.size + 1, lstO (ys.push y) ep') :: (nw ++ nest)) (by
        rw [List.append_assoc]
        refine (List.perm_append_comm).trans ?_
        simp only [List.cons_append, List.nil_append]
        refine List.Perm.cons _ (List.Perm.cons _ List.perm_append_comm))
      refine ⟨items.size - (j + 1), by lia, j + 1, o2, ys.push y, ep', nw ++ nest, _, rfl, hjl, c2, d2, by rw [Array.size_push, hys], ?_, ?_, B6⟩
      · intro i v hv
        by_cases hi : i < ys.size
        · rw [Array.getElem?_push_lt hi] at hv
          obtain ⟨nw', f1, f2⟩ := hF i v (by rw [Array.getElem?_eq_getElem hi]; exact hv)
          exact ⟨nw', f1, fun p hp => List.mem_append_right _ (f2 p hp)⟩
        · have hi2 : i = ys.size := by
            have := (Array.getElem?_eq_some_iff.mp hv).1
            rw [Array.size_push] at this; lia
          subst hi2
          simp at hv
          subst hv
          rw [hys]
          exact ⟨nw, hFy, fun p hp => List.mem_append_left _ hp⟩
      · intro p hp
        rcases List.mem_append.mp hp with hp | hp
        · exact hnw p hp
        · exact hnst p hp
    · have ej : j = items.size := by lia
      subst ej
      refine next_end hh hit (hlst _ _ _ _ B) (Array.getElem?_eq_none (by lia)) ?_
      intro h2 x2
      have B1 := B.ext1 (t := s₂.toks) x2 hzL
      dsimp only
      have hn := B1.nod
      rw [List.nodup_cons] at hn
      have M1 : MEv c [] [] ((s₁.heap.objs.size + 1, lstO ys ep) :: nest) s₁ { s₂ with heap := h2, toks := s₂.toks } := by
        refine ⟨B1.inv, fun b o e hb _ => B1.keep b o (hideAll_get _ e (by rw [List.append_nil]; exact hb)), by have := B1.size; rwa [hideAll_size] at this, rfl, fun p hp => (nomatch hp), fun p hp => ⟨B1.own p hp, ?_⟩, hn.2⟩
        rcases List.mem_cons.mp hp with rfl | hp
        · exact Nat.le_succ _
        · exact hnst p hp
      have B2 := BE.turned (mu := []) M1
      rw [List.nil_append] at B2
      refine hG fun zP zK => ?_
      obtain ⟨oC, esC, epC, gC, rC⟩ := B1.ns
      refine zK ?_
      have ltE : ∀ b o, s₁.heap.get? b = some o → b ≠ C := fun b o e q => absurd (Heap.lt_size e) (by rw [q]; exact Nat.not_lt.mpr hCle)
      have B3 := B2.add gC (by
        cases q : he.get? C with
        | none => rfl
        | some o' => exact absurd rfl (ltE _ _ (BE.keep _ _ q))) (Nat.le_trans I.size hCle) (fun q => absurd BE.ns.lt (by rw [← q]; exact Nat.not_lt.mpr hCle)) (by
        intro q
        obtain ⟨p, hp, e⟩ := List.mem_map.mp q
        rcases List.mem_append.mp hp with hp | hp
        · exact hn.1 (e ▸ List.mem_map_of_mem hp)
        · exact ltE _ _ (BE.own p hp) e)
      refine wpAny_assign_Name ?_
      refine b_store B3 hL hkf hly ?_
      intro s4 B4
      refine ⟨_, ⟨oC, esC, epC, B4.own (C, oC) (List.mem_cons_self ..), rC⟩, fun h' sb' => ?_⟩
      have B5 := B4.ext1 (t := s4.toks) sb'.extBut hzE
      exact hQ _ ys ep nest _ B5 hys hF
  have loop' : ∀ (D C' : Addr), D = s₁.heap.objs.size + 1 → C' = C → ∀ cenv : Env, cenv = compEnv scope C env → codeAny c.M A (.compLoop (.ListComp elt [⟨.Name x px, iter, [], 0⟩] scope pos) 0 (.ref s₁.heap.objs.size) (.ref D) cenv)
      (fun r s' => match r with | .ok _ => wpAny c.M A (assign (.Name y py) env (.ref D)) (fun _ s'' => ∃ m, s''.heap.Ns C' m ∧ ∀ h', Heap.SameBut C' s''.heap h' → Q .next { s'' with heap := h' }) E s' | .error x => ∃ m, s'.heap.Ns C' m ∧ ∀ h', Heap.SameBut C' s'.heap h' → wpAny c.M A (passOn "comprehension.variables-let-go" x cenv) (fun (_ : Value) s' => Q .next s') E { s' with heap := h' }) { s₁ with heap := h₁, toks := s₁.toks + ([] : List (Str × Value)).length } := by
    rintro D C' rfl rfl cenv rfl; exact loop
  refine codeAny_compStart_list ?_ ?_
  · exact loop' _ _ z1 z2 _ (congrArg (fun a => compEnv scope a env) z2)
  · refine wpAny_pyIter_listiter (i := 0) (l := l) ⟨_, gI, rfl, rfl⟩ ?_
    exact loop' _ _ z1 z2 _ (congrArg (fun a => compEnv scope a env) z2)
end Mine
end
section
namespace Mine
open PySem PySem.W PySem.W.X PyProof.Rows PySem.Calls PySem.NumText
open Sem (wp)

/-- what the machines are within -/
def MachOk (m : Mach) : Prop := (∀ n, m.num = some n → n ≤ 100000 ∧ (numS n).length ≤ 100) ∧ m.tail.length ≤ 1000
section
variable {c : Cx} {k : Nat} {A : Around} {s₀ s : Shared} {L : Addr} {m : List (Str × Value)} {mu : List (Addr × Obj)} {Q : Flow → Shared → Prop} {E : Value → Shared → Prop}


theorem law2 {DM : Addr} {ysM : Array Value} {epM : Nat} {ms : List Mach} (R' : Room (k + 2) A) (hzL : (Sees s₀).objs.size ≤ L) (B : Bod c (Sees s₀) L m mu s)
    (hm : m.lookup n_machines = some (.ref DM)) (hDM : (DM, lstO ysM epM) ∈ mu) (hM : MachsIn mu ysM ms) (hz : ms.length ≤ 100) (hms : ∀ x ∈ ms, MachOk x)
    (h : ∀ D ys ep nest s', FieldsIn nest ys (ms.map plainF) → Bod c (Sees s₀) L ((n_plain, .ref D) :: m) ((D, lstO ys ep) :: (nest ++ mu)) s' →
      wpC c.M A (execs ((bodyF c.w.params 268).drop 2) (envF c.w.params 268 L)) Q E s') :
    wpC c.M A (execs ((bodyF c.w.params 268).drop 1) (envF c.w.params 268 L)) Q E s := by
  refine wpC_execs_cons ?_
  refine wpC_of ?_
  refine s_comp (L := L) (he := Sees s₀) (fun j y nw => ∃ mm a v1 v2 v3, ms[j]? = some mm ∧ y = .ref a ∧ nw = [(a, lstO #[v1, v2, v3] 0)] ∧ StrsAre [v1, v2, v3] (plainF mm)) (by kernel_rfl) R'.handled (by kernel_rfl) (by kernel_rfl) (by decide) (by decide) (by decide) (envF_locals _ _ _) (by kernel_rfl) (by kernel_rfl) hzL (fun K1 E1 hK1 => ?_)
  refine b_name B (envF_locals _ _ _) (hm) (by kernel_rfl) (by kernel_rfl) (by kernel_rfl) ?_
  have gDM := B.own _ hDM
  have lDM := B.lowM _ hDM
  refine hK1 DM ysM _ _ _ _ B gDM rfl ⟨_, rfl⟩ lDM (by rw [hM.1]; lia) ?_ ?_
  · intro j v C mC muC s2 E' hv hC B2
    refine hG fun zP zK => ?_
    obtain ⟨mm, hmm⟩ : ∃ mm, ms[j]? = some mm := by
      have hj : j < ysM.size := (Array.getElem?_eq_some_iff.mp hv).1
      exact ⟨_, List.getElem?_eq_getElem (by rw [← hM.1]; exact hj)⟩
    obtain ⟨v', hv', a, t1, t2, t3, t4, rfl, hin⟩ := hM.2 j mm hmm
    refine zK ?_
    rw [hv] at hv'
    cases hv'
    have ga := B2.see _ _ (B.lowM _ hin) (B.own _ hin)
    refine c_name ?_
    refine b_glob B2 (gv_law_plain_u _) rfl (by kernel_rfl) rfl (by kernel_rfl) (by kernel_rfl) ?_
    refine callWith_S (K := KS c.w.params) (h₀ := s2.heap) B2.inv.kin (by kernel_rfl) ?_
    refine b_name B2 rfl look_here rfl (by kernel_rfl) (by kernel_rfl) ?_
    refine star_tup ga (by walk_at "sz") ?_
    intro h3 k3
    have B3 := B2.kept (h' := h3) (t := s2.toks) k3 (by rw [hideAll_size]; exact hC)
    refine ⟨B3.inv.kin, ?_⟩
    have hok := hms mm (List.mem_of_getElem? hmm)
    refine plain_spec (k := k + 1) (m := mm) B3.inv R' hok.1 hok.2 ?_
    intro b u1 u2 u3 s4 M4
    have B4 := B3.turned (mu := []) M4
    refine ⟨[(b, _)], ⟨mm, b, _, _, _, hmm, rfl, rfl, .cons _ _ (.cons _ _ (.cons _ _ .nil))⟩, ?_, B4⟩
    intro p hp
    rw [List.mem_singleton.mp hp]
    have h1 := (M4.new _ (List.mem_singleton.mpr rfl)).2
    have h2 := B3.size
    rw [hideAll_size] at h2
    exact Nat.le_trans h2 h1
  · intro D ys ep nest s4 B4 hys hF
    dsimp only [seqK, seqC]
    refine h D ys ep nest s4 ⟨by rw [hys, hM.1, List.length_map], ?_⟩ B4
    intro j fs hj
    rw [List.getElem?_map] at hj
    obtain ⟨mm, hmm, rfl⟩ := Option.map_eq_some_iff.mp hj
    have hlt : j < ys.size := by
      rw [hys, hM.1]
      exact (List.getElem?_eq_some_iff.mp hmm).1
    refine hG fun zP zK => ?_
    obtain ⟨nw, ⟨mm', a, v1, v2, v3, e1, e2, rfl, e4⟩, hin⟩ := hF j ys[j] (Array.getElem?_eq_getElem hlt)
    refine zK ?_
    rw [hmm] at e1
    cases e1
    refine ⟨a, _, _, by rw [Array.getElem?_eq_getElem hlt, e2], hin _ (List.mem_singleton.mpr rfl), e4⟩


theorem law3 {DM : Addr} {ysM : Array Value} {epM : Nat} {ms : List Mach} (R' : Room (k + 2) A) (hzL : (Sees s₀).objs.size ≤ L) (B : Bod c (Sees s₀) L m mu s)
    (hm : m.lookup n_machines = some (.ref DM)) (hDM : (DM, lstO ysM epM) ∈ mu) (hM : MachsIn mu ysM ms) (hz : ms.length ≤ 100) (hms : ∀ x ∈ ms, MachOk x)
    (h : ∀ D ys ep nest s', FieldsIn nest ys (ms.map aliasF) → Bod c (Sees s₀) L ((n_named, .ref D) :: m) ((D, lstO ys ep) :: (nest ++ mu)) s' →
      wpC c.M A (execs ((bodyF c.w.params 268).drop 3) (envF c.w.params 268 L)) Q E s') :
    wpC c.M A (execs ((bodyF c.w.params 268).drop 2) (envF c.w.params 268 L)) Q E s := by
  refine wpC_execs_cons ?_
  refine wpC_of ?_
  refine s_comp (L := L) (he := Sees s₀) (fun j y nw => ∃ mm a v1 v2 v3, ms[j]? = some mm ∧ y = .ref a ∧ nw = [(a, lstO #[v1, v2, v3] 0)] ∧ StrsAre [v1, v2, v3] (aliasF mm)) (by kernel_rfl) R'.handled (by kernel_rfl) (by kernel_rfl) (by decide) (by decide) (by decide) (envF_locals _ _ _) (by kernel_rfl) (by kernel_rfl) hzL (fun K1 E1 hK1 => ?_)
  refine b_name B (envF_locals _ _ _) (hm) (by kernel_rfl) (by kernel_rfl) (by kernel_rfl) ?_
  have gDM := B.own _ hDM
  have lDM := B.lowM _ hDM
  refine hK1 DM ysM _ _ _ _ B gDM rfl ⟨_, rfl⟩ lDM (by rw [hM.1]; lia) ?_ ?_
  · intro j v C mC muC s2 E' hv hC B2
    refine hG fun zP zK => ?_
    obtain ⟨mm, hmm⟩ : ∃ mm, ms[j]? = some mm := by
      have hj : j < ysM.size := (Array.getElem?_eq_some_iff.mp hv).1
      exact ⟨_, List.getElem?_eq_getElem (by rw [← hM.1]; exact hj)⟩
    obtain ⟨v', hv', a, t1, t2, t3, t4, rfl, hin⟩ := hM.2 j mm hmm
    refine zK ?_
    rw [hv] at hv'
    cases hv'
    have ga := B2.see _ _ (B.lowM _ hin) (B.own _ hin)
    refine c_name ?_
    refine b_glob B2 (gv_law_alias_u _) rfl (by kernel_rfl) rfl (by kernel_rfl) (by kernel_rfl) ?_
    refine callWith_S (K := KS c.w.params) (h₀ := s2.heap) B2.inv.kin (by kernel_rfl) ?_
    refine b_name B2 rfl look_here rfl (by kernel_rfl) (by kernel_rfl) ?_
    refine star_tup ga (by walk_at "sz") ?_
    intro h3 k3
    have B3 := B2.kept (h' := h3) (t := s2.toks) k3 (by rw [hideAll_size]; exact hC)
    refine ⟨B3.inv.kin, ?_⟩
    have hok := hms mm (List.mem_of_getElem? hmm)
    refine alias_spec (m := mm) B3.inv R' hok.1 hok.2 ?_
    intro b v1 v2 v3 s4 hst M4
    have B4 := B3.turned (mu := []) M4
    refine ⟨[(b, _)], ⟨mm, b, _, _, _, hmm, rfl, rfl, hst⟩, ?_, B4⟩
    intro p hp
    rw [List.mem_singleton.mp hp]
    have h1 := (M4.new _ (List.mem_singleton.mpr rfl)).2
    have h2 := B3.size
    rw [hideAll_size] at h2
    exact Nat.le_trans h2 h1
  · intro D ys ep nest s4 B4 hys hF
    dsimp only [seqK, seqC]
    refine h D ys ep nest s4 ⟨by rw [hys, hM.1, List.length_map], ?_⟩ B4
    intro j fs hj
    rw [List.getElem?_map] at hj
    obtain ⟨mm, hmm, rfl⟩ := Option.map_eq_some_iff.mp hj
    have hlt : j < ys.size := by
      rw [hys, hM.1]
      exact (List.getElem?_eq_some_iff.mp hmm).1
    refine hG fun zP zK => ?_
    obtain ⟨nw, ⟨mm', a, v1, v2, v3, e1, e2, rfl, e4⟩, hin⟩ := hF j ys[j] (Array.getElem?_eq_getElem hlt)
    refine zK ?_
    rw [hmm] at e1
    cases e1
    refine ⟨a, _, _, by rw [Array.getElem?_eq_getElem hlt, e2], hin _ (List.mem_singleton.mpr rfl), e4⟩

end
end Mine
end
section
namespace Mine
open PySem PySem.W PySem.W.X PyProof.Rows PySem.Calls PySem.NumText
open Sem (wp)

/-- a list of rows of texts, as data -/
noncomputable def rowD (fs : List Str) : PyData := .list (fs.map PyData.str)
theorem reads_rows {h : Heap} : ∀ {ms : List (List Str)} {vs : List Value}, vs.length = ms.length → (∀ (j : Nat) (fs : List Str), ms[j]? = some fs → ∃ (a : Addr) (its : Array Value) (ep : Nat), vs[j]? = some (.ref a) ∧ h.get? a = some (lstO its ep) ∧ StrsAre its.toList fs) →
    ∃ as, ReadsAll h vs (ms.map rowD) as
  | [], [], _, _ => ⟨_, .nil⟩
  | [], _ :: _, e, _ => by cases e
  | _ :: _, [], e, _ => by cases e
  | fs :: ms, v :: vs, e, hj => by
    refine hG fun zP zK => ?_
    obtain ⟨a, its, ep, q1, q2, q3⟩ := hj 0 fs rfl
    obtain ⟨as, r⟩ := reads_rows (ms := ms) (vs := vs) (by simpa using e) fun j f hf => by simpa using hj (j + 1) f (by simpa using hf)
    refine zK ?_
    have : v = .ref a := by simpa using q1
    subst this
    exact ⟨_, .cons (reads_lst q2 q3) r⟩
theorem reads_nest {h : Heap} {D : Addr} {items : Array Value} {ep : Nat} {ms : List (List Str)} (e : h.get? D = some (lstO items ep)) (hF : FieldsAt h items ms) : ∃ as, Reads h (.ref D) (.list (ms.map rowD)) as := by
  obtain ⟨as, r⟩ := reads_rows (h := h) (ms := ms) (vs := items.toList) (by rw [Array.length_toList]; exact hF.1) fun j fs hj => by
    refine hG fun zP zK => ?_
    obtain ⟨a, its, ep', q1, q2, q3, _⟩ := hF.2 j fs hj
    refine zK ?_
    exact ⟨a, its, ep', by rw [Array.getElem?_toList]; exact q1, q2, q3⟩
  exact ⟨_, .list e rfl rfl r⟩
theorem canLay_rows : ∀ (ms : List (List Str)), (∀ fs ∈ ms, ∀ y ∈ fs, PyData.strOk y = true) → PyData.canLayAll0 (ms.map rowD) = true
  | [], _ => rfl
  | fs :: r, h => by
    have h1 := canLay_strs fs (h fs (List.mem_cons_self ..))
    have h2 := canLay_rows r fun z hz => h z (List.mem_cons_of_mem _ hz)
    simp [PyData.canLayAll0, PyData.canLay0, rowD, h1]
    exact h2
theorem depth_rows : ∀ (ms : List (List Str)), PyData.depthAll (ms.map rowD) ≤ 2
  | [] => by simp [PyData.depthAll]
  | fs :: r => by
    have h1 := depth_rows r
    have h2 := depth_strs fs
    have e : PyData.depthAll ((fs :: r).map rowD) = max (PyData.depthAll (fs.map PyData.str) + 1) (PyData.depthAll (r.map rowD)) := by
      rw [List.map_cons, PyData.depthAll, rowD, PyData.depth]
    rw [e]
    lia
theorem shaped_rows {ms : List (List Str)} (h : ∀ fs ∈ ms, ∀ y ∈ fs, PyData.strOk y = true) : SeqAt.shaped (.list (ms.map rowD)) = true := by
  have h1 := canLay_rows ms h
  have h2 := depth_rows ms
  simp [SeqAt.shaped, PyData.canLay0, PyData.depth, h1]
  lia
theorem eqv_rows : ∀ (ms : List (List Str)), PyData.eqvAll (ms.map rowD) (ms.map rowD) = true
  | [] => rfl
  | fs :: r => by
    have h1 := eqv_rows r
    have h2 := eqv_strs fs
    simp [PyData.eqvAll, rowD, PyData.eqv, h2]
    exact h1

/-- two lists of the same rows are not unequal -/
theorem ne_rows {c : Cx} {A : Around} {s : Shared} {a b : Addr} {i1 i2 : Array Value} {e1 e2 : Nat} {ms : List (List Str)} {Q : Value → Shared → Prop} {E : Value → Shared → Prop} (g1 : s.heap.get? a = some (lstO i1 e1)) (g2 : s.heap.get? b = some (lstO i2 e2))
    (f1 : FieldsAt s.heap i1 ms) (f2 : FieldsAt s.heap i2 ms) (hok : ∀ fs ∈ ms, ∀ y ∈ fs, PyData.strOk y = true) (hu : A.units + 64 < cLine) (h : Q (.bool false) s) : wpAny c.M A (compareOp .NotEq (.ref a) (.ref b)) Q E s := by
  obtain ⟨as, r1⟩ := reads_nest g1 f1
  obtain ⟨bs, r2⟩ := reads_nest g2 f2
  refine ne_dataH r1 r2 (shaped_rows hok) (shaped_rows hok) hu ?_
  have heqv : PyData.eqv (.list (ms.map rowD)) (.list (ms.map rowD)) = true := by
    have := eqv_rows ms
    simp [PyData.eqv, this]
  rw [heqv]; exact h

section
variable {c : Cx} {k : Nat} {A : Around} {s₀ s : Shared} {L : Addr} {m : List (Str × Value)} {mu : List (Addr × Obj)} {Q : Flow → Shared → Prop} {E : Value → Shared → Prop}
theorem law4 {DP : Addr} {ysP : Array Value} {epP : Nat} {P : List (List Str)} (R' : Room (k + 2) A) (hzL : (Sees s₀).objs.size ≤ L) (B : Bod c (Sees s₀) L m mu s)
    (hm : m.lookup n_plain = some (.ref DP)) (hDP : (DP, lstO ysP epP) ∈ mu) (hP : FieldsIn mu ysP P) (hz : P.length ≤ 100) (hfz : ∀ fs ∈ P, fs.length ≤ 100)
    (h : ∀ D ys ep nest s', FieldsIn nest ys (P.map (·.map blankOf)) → Bod c (Sees s₀) L ((n_bare, .ref D) :: m) ((D, lstO ys ep) :: (nest ++ mu)) s' →
      wpC c.M A (execs ((bodyF c.w.params 268).drop 4) (envF c.w.params 268 L)) Q E s') :
    wpC c.M A (execs ((bodyF c.w.params 268).drop 3) (envF c.w.params 268 L)) Q E s := by
  refine wpC_execs_cons ?_
  refine wpC_of ?_
  refine s_comp (L := L) (he := Sees s₀) (fun j y nw => ∃ fs a its ep, P[j]? = some fs ∧ y = .ref a ∧ (a, lstO its ep) ∈ nw ∧ StrsAre its.toList (fs.map blankOf)) (by kernel_rfl) R'.handled (by kernel_rfl) (by kernel_rfl) (by decide) (by decide) (by decide) (envF_locals _ _ _) (by kernel_rfl) (by kernel_rfl) hzL (fun K1 E1 hK1 => ?_)
  refine b_name B (envF_locals _ _ _) (hm) (by kernel_rfl) (by kernel_rfl) (by kernel_rfl) ?_
  have gDP := B.own _ hDP
  have lDP := B.lowM _ hDP
  refine hK1 DP ysP _ _ _ _ B gDP rfl ⟨_, rfl⟩ lDP (by rw [hP.1]; lia) ?_ ?_
  · intro j v C mC muC s2 E' hv hC B2
    refine hG fun zP zK => ?_
    obtain ⟨fs, hfs⟩ : ∃ fs, P[j]? = some fs := by
      have hj : j < ysP.size := (Array.getElem?_eq_some_iff.mp hv).1
      exact ⟨_, List.getElem?_eq_getElem (by rw [← hP.1]; exact hj)⟩
    obtain ⟨a, its, ep, hv', hin, hst⟩ := hP.2 j fs hfs
    refine zK ?_
    rw [hv] at hv'
    cases hv'
    have lo := B.lowM _ hin
    have ga := B2.see _ _ lo (B.own _ hin)
    have hitz : its.size ≤ 100 := by
      have h1 := strsAre_length hst
      rw [Array.length_toList] at h1
      rw [h1]; exact hfz fs (List.mem_of_getElem? hfs)
    refine e_comp (fun i y nw => ∃ v t, fs[i]? = some v ∧ y = .str (blankOf v) t ∧ nw = []) R'.handled (by kernel_rfl) (by kernel_rfl) (by decide) (by decide) (by decide) (fun K1 E1 hK1 => ?_)
    refine b_name B2 rfl look_here rfl (by kernel_rfl) (by kernel_rfl) ?_
    refine hK1 a its _ _ B2.inv ga rfl ⟨_, rfl⟩ lo (by lia) ?_ ?_
    · intro i v C3 m3 mu3 s3 E3 hv3 hC3 B3
      obtain ⟨y, t, hy, rfl⟩ := strsAre_back hst i v (by rw [Array.getElem?_toList]; exact hv3)
      refine c_name ?_
      refine b_glob B3 (gv_unknown_as_blank_u _) rfl (by kernel_rfl) rfl (by kernel_rfl) (by kernel_rfl) ?_
      refine cw_def (fo_59 _) (fd_59 _) ?_
      refine a_cons ?_
      refine b_name B3 rfl look_here rfl (by kernel_rfl) (by kernel_rfl) ?_
      refine a_nil ?_
      refine ⟨B3.inv, ?_⟩
      refine unknown_spec (k := k + 1) B3.inv R' ?_
      intro t4 s4 e4
      exact ⟨[], ⟨y, t4, hy, rfl, rfl⟩, fun p hp => (nomatch hp), B3.after e4⟩
    · intro D ys ep2 nest s3 M3 hys hF
      have B4 := B2.turned (mu := []) M3
      refine ⟨(D, lstO ys ep2) :: nest, ⟨fs, D, ys, ep2, hfs, rfl, List.mem_cons_self .., ?_⟩, ?_, B4⟩
      · refine strsAre_of (by rw [Array.length_toList, hys, List.length_map]; have := strsAre_length hst; rwa [Array.length_toList] at this) fun i v hv => ?_
        obtain ⟨nw, ⟨y, t, e1, e2, _⟩, _⟩ := hF i v (by rw [← Array.getElem?_toList]; exact hv)
        exact ⟨blankOf y, t, by rw [List.getElem?_map, e1]; rfl, e2⟩
      · intro p hp
        have h1 := (M3.new _ hp).2
        have h2 := B2.size
        rw [hideAll_size] at h2
        exact Nat.le_trans h2 h1
  · intro D ys ep nest s4 B4 hys hF
    dsimp only [seqK, seqC]
    refine h D ys ep nest s4 ⟨by rw [hys, hP.1, List.length_map], ?_⟩ B4
    intro j fs hj
    rw [List.getElem?_map] at hj
    obtain ⟨fs0, hfs, rfl⟩ := Option.map_eq_some_iff.mp hj
    have hlt : j < ys.size := by
      rw [hys, hP.1]
      exact (List.getElem?_eq_some_iff.mp hfs).1
    refine hG fun zP zK => ?_
    obtain ⟨nw, ⟨fs', a, its, ep', e1, e2, e3, e4⟩, hin⟩ := hF j ys[j] (Array.getElem?_eq_getElem hlt)
    refine zK ?_
    rw [hfs] at e1
    cases e1
    exact ⟨a, _, _, by rw [Array.getElem?_eq_getElem hlt, e2], hin _ e3, e4⟩

theorem law5 {DP DB : Addr} {ysP ysB : Array Value} {epP epB : Nat} {P : List (List Str)} (R' : Room (k + 2) A) (hzL : (Sees s₀).objs.size ≤ L) (B : Bod c (Sees s₀) L m mu s)
    (hm : m.lookup n_plain = some (.ref DP)) (hDP : (DP, lstO ysP epP) ∈ mu) (hP : FieldsIn mu ysP P) (hz : P.length ≤ 100) (hfz : ∀ fs ∈ P, fs.length ≤ 100)
    (hmB : m.lookup n_bare = some (.ref DB)) (hDB : (DB, lstO ysB epB) ∈ mu) (hB : FieldsIn mu ysB (P.map (·.map blankOf))) (hok : ∀ fs ∈ P, ∀ y ∈ fs, PyData.strOk (blankOf y) = true)
    (h : ∀ s', Bod c (Sees s₀) L m mu s' → wpC c.M A (execs ((bodyF c.w.params 268).drop 5) (envF c.w.params 268 L)) Q E s') :
    wpC c.M A (execs ((bodyF c.w.params 268).drop 4) (envF c.w.params 268 L)) Q E s := by
  refine wpC_execs_cons ?_
  refine wpC_of ?_
  refine wpAny_If ?_
  refine wpAny_isTrue_Compare1 ?_
  refine b_name B (envF_locals _ _ _) (hmB) (by kernel_rfl) (by kernel_rfl) (by kernel_rfl) ?_
  refine e_comp (fun j y nw => ∃ fs a its ep, P[j]? = some fs ∧ y = .ref a ∧ (a, lstO its ep) ∈ nw ∧ StrsAre its.toList (fs.map blankOf)) R'.handled (by kernel_rfl) (by kernel_rfl) (by decide) (by decide) (by decide) (fun K1 E1 hK1 => ?_)
  refine b_name B (envF_locals _ _ _) (hm) (by kernel_rfl) (by kernel_rfl) (by kernel_rfl) ?_
  have gDP := B.own _ hDP
  have lDP := B.lowM _ hDP
  refine hK1 DP ysP _ _ B.inv gDP rfl ⟨_, rfl⟩ lDP (by rw [hP.1]; lia) ?_ ?_
  · intro j v C mC muC s2 E' hv hC B2
    refine hG fun zP zK => ?_
    obtain ⟨fs, hfs⟩ : ∃ fs, P[j]? = some fs := by
      have hj : j < ysP.size := (Array.getElem?_eq_some_iff.mp hv).1
      exact ⟨_, List.getElem?_eq_getElem (by rw [← hP.1]; exact hj)⟩
    obtain ⟨a, its, ep, hv', hin, hst⟩ := hP.2 j fs hfs
    refine zK ?_
    rw [hv] at hv'
    cases hv'
    have lo := B.lowM _ hin
    have ga := B2.see _ _ lo (B.own _ hin)
    have hitz : its.size ≤ 100 := by
      have h1 := strsAre_length hst
      rw [Array.length_toList] at h1
      rw [h1]; exact hfz fs (List.mem_of_getElem? hfs)
    refine c_name ?_
    refine b_glob B2 (gv_law_bare_u _) rfl (by kernel_rfl) rfl (by kernel_rfl) (by kernel_rfl) ?_
    refine cw_def (fo_251 _) (fd_251 _) ?_
    refine a_cons ?_
    refine b_name B2 rfl look_here rfl (by kernel_rfl) (by kernel_rfl) ?_
    refine a_nil ?_
    refine ⟨B2.inv, ?_⟩
    refine bare_spec (k := k + 1) B2.inv R' ga lo hst (by lia) ?_
    intro D ys ep2 s3 hys M3
    have B4 := B2.turned (mu := []) M3
    refine ⟨[(D, lstO ys ep2)], ⟨fs, D, ys, ep2, hfs, rfl, List.mem_cons_self .., hys⟩, ?_, B4⟩
    intro p hp
    have h1 := (M3.new _ hp).2
    have h2 := B2.size
    rw [hideAll_size] at h2
    exact Nat.le_trans h2 h1
  · intro D ys ep nest s4 M4 hys hF
    have B4 := B.turned (mu := []) M4
    have hFI : FieldsIn nest ys (P.map (·.map blankOf)) := by
      refine ⟨by rw [hys, hP.1, List.length_map], ?_⟩
      intro j fs hj
      rw [List.getElem?_map] at hj
      obtain ⟨fs0, hfs, rfl⟩ := Option.map_eq_some_iff.mp hj
      have hlt : j < ys.size := by
        rw [hys, hP.1]
        exact (List.getElem?_eq_some_iff.mp hfs).1
      refine hG fun zP zK => ?_
      obtain ⟨nw, ⟨fs', a, its, ep', e1, e2, e3, e4⟩, hin⟩ := hF j ys[j] (Array.getElem?_eq_getElem hlt)
      refine zK ?_
      rw [hfs] at e1
      cases e1
      exact ⟨a, _, _, by rw [Array.getElem?_eq_getElem hlt, e2], hin _ e3, e4⟩
    refine ne_rows (B4.own (DB, lstO ysB epB) (by simp [hDB])) (B4.own (D, lstO ys ep) (mI 0 rfl)) (hB.at B4 fun p hp => by simp [hp]) (hFI.at B4 fun p hp => by simp [hp]) ?_ R'.u64 ?_
    · intro fs hfs y hy
      obtain ⟨fs0, h0, rfl⟩ := List.mem_map.mp hfs
      obtain ⟨y0, hy0, rfl⟩ := List.mem_map.mp hy
      exact hok fs0 h0 y0 hy0
    refine b_bool ?_
    refine (if_neg Bool.false_ne_true).mpr ?_
    refine wpAny_execs_nil ?_
    refine h s4 (B4.drop ?_)
    exact List.sublist_append_right _ _
end
end Mine
end
section
namespace Mine
open PySem PySem.W PySem.W.X PyProof.Rows PySem.Calls
open Sem (wp)

noncomputable abbrev zmu2 (z TI TO i1 i2 l1 l2 : Addr) (o1 o2 : Obj) (a b : Value) (xs ys : Array Value) (e1 e2 : Nat) : List (Addr × Obj) :=
  [(z, zipO TI TO .none), (TO, tupO [a, b]), (i1, o1), (i2, o2), (TI, tupO [.ref i1, .ref i2]), (l1, lstO xs e1), (l2, lstO ys e2)]

inductive ZI3 (c : Cx) (he : Heap) (L z TI TO i1 i2 l1 l2 : Addr) (xs ys : Array Value) (e1 e2 N : Nat) (J : Nat → List (Str × Value) → List (Addr × Obj) → Prop) (n : Nat) (s : Shared) : Prop
  | mk (j : Nat) (o1 o2 : Obj) (a b : Value) (m : List (Str × Value)) (mu : List (Addr × Obj)) (h1 : n = N - j) (h2 : j ≤ N) (h3 : o1.cls = .type "list_iterator") (h4 : o1.data = .fields #[.ref l1, .int (j : Nat) 0]) (h5 : o2.cls = .type "list_iterator") (h6 : o2.data = .fields #[.ref l2, .int (j : Nat) 0]) (h7 : J j m mu) (h8 : Bod c he L m (zmu2 z TI TO i1 i2 l1 l2 o1 o2 a b xs ys e1 e2 ++ mu) s) : ZI3 c he L z TI TO i1 i2 l1 l2 xs ys e1 e2 N J n s
/-- a loop over zip of two lists, the caller below -/
theorem zip2_loop {c : Cx} {A : Around} {he : Heap} {L : Addr} {env : Env} {body orelse : List Stmt} {R : Result → Shared → Prop} {n1 n2 : Str} {p1 p2 pt : Pos} {kt : Nat}
    (J : Nat → List (Str × Value) → List (Addr × Obj) → Prop) (xs ys : Array Value) (N : Nat) (hNx : xs.size = N) (hNy : ys.size = N) (hh : A.handled = none) (hL : env.locals = L) (hk : env.scope.kind = .function)
    (hl1 : env.kindOf n1 = some .local) (hl2 : env.kindOf n2 = some .local) (hz : he.objs.size ≤ L)
    (turn : ∀ j m mu s x y (zm : List (Addr × Obj)), j < N → xs[j]? = some x → ys[j]? = some y → J j m mu → Bod c he L ((n2, y) :: (n1, x) :: m) (mu ++ zm) s →
      wpC c.M A (execs body env) (fun f s₃ => match f with
          | .next | .cont => ∃ m' mu', J (j + 1) m' mu' ∧ Bod c he L m' (mu' ++ zm) s₃
          | .brk => R (.ok .next) s₃
          | .ret v => R (.ok (.ret v)) s₃) (notedBy c.M A env fun e s' => R (.error e) s') s)
    (done : ∀ m mu s, J N m mu → Bod c he L m mu s → wpAny c.M A (execs orelse env) (fun f s₃ => R (.ok f) s₃) (notedBy c.M A env fun e s' => R (.error e) s') s)
    {z TI TO i1 i2 l1 l2 : Addr} {o1 o2 : Obj} {a b : Value} {e1 e2 : Nat} {m : List (Str × Value)} {mu : List (Addr × Obj)} {s : Shared} (hoc1 : o1.cls = .type "list_iterator") (hod1 : o1.data = .fields #[.ref l1, .int (0 : Nat) 0])
    (hoc2 : o2.cls = .type "list_iterator") (hod2 : o2.data = .fields #[.ref l2, .int (0 : Nat) 0])
    (h0 : J 0 m mu) (B : Bod c he L m (zmu2 z TI TO i1 i2 l1 l2 o1 o2 a b xs ys e1 e2 ++ mu) s) : codeC c.M A (.forLoop (.Tuple [.Name n1 p1, .Name n2 p2] kt pt) (.ref z) body orelse env) R s := by
  have nd : ZipApart z TI TO i1 i2 l1 l2 := by
    have hn := B.nod
    exact ⟨nI hn 4 0 rfl rfl rfl, nI hn 1 0 rfl rfl rfl, nI hn 2 0 rfl rfl rfl, nI hn 3 0 rfl rfl rfl, nI hn 4 1 rfl rfl rfl, nI hn 4 2 rfl rfl rfl, nI hn 4 3 rfl rfl rfl, nI hn 1 2 rfl rfl rfl, nI hn 1 3 rfl rfl rfl, nI hn 2 3 rfl rfl rfl, nI hn 5 0 rfl rfl rfl, nI hn 5 1 rfl rfl rfl, nI hn 5 2 rfl rfl rfl, nI hn 5 3 rfl rfl rfl, nI hn 6 0 rfl rfl rfl, nI hn 6 1 rfl rfl rfl, nI hn 6 2 rfl rfl rfl, nI hn 6 3 rfl rfl rfl⟩
  refine codeC_forLoop (ZI3 c he L z TI TO i1 i2 l1 l2 xs ys e1 e2 N J) ?_ N
    ⟨0, o1, o2, a, b, m, mu, rfl, Nat.zero_le _, hoc1, hod1, hoc2, hod2, h0, B⟩
  intro n s zz1
  refine hG fun zP zK => ?_
  obtain ⟨j, o1, o2, a, b, m, mu, rfl, hj, hc1, hd1, hc2, hd2, hJ, B⟩ := zz1
  refine zK ?_
  have hz' : IsZip s.heap z TI TO .none := B.own (z, zipO TI TO .none) (mI 0 rfl)
  have hTI : IsPair s.heap TI (.ref i1) (.ref i2) := B.own (TI, tupO [.ref i1, .ref i2]) (mI 4 rfl)
  have hTO : IsPair s.heap TO a b := B.own (TO, tupO [a, b]) (mI 1 rfl)
  have hi1 : s.heap.IsListIter i1 l1 j := ⟨o1, B.own (i1, o1) (mI 2 rfl), hc1, hd1⟩
  have hi2 : s.heap.IsListIter i2 l2 j := ⟨o2, B.own (i2, o2) (mI 3 rfl), hc2, hd2⟩
  have hl1' : s.heap.IsList l1 xs := ⟨_, B.own (l1, lstO xs e1) (mI 5 rfl), rfl, _, rfl⟩
  have hl2' : s.heap.IsList l2 ys := ⟨_, B.own (l2, lstO ys e2) (mI 6 rfl), rfl, _, rfl⟩
  by_cases hlt : j < N
  · have hx : xs[j]? = some xs[j] := Array.getElem?_eq_getElem (by omega)
    have hy : ys[j]? = some ys[j] := Array.getElem?_eq_getElem (by omega)
    refine wpAny_pyNext_zip_item nd hz' hTI hTO hi1 hi2 hl1' hl2' hx hy ?_
    intro h1 z1 t1 j1 j2 p1' sz1 k1
    dsimp only
    have nT : ∀ b o, s.heap.get? b = some o → b ≠ s.heap.objs.size := fun b o e => Nat.ne_of_lt (Heap.lt_size e)
    refine wpAny_letOwnedTupleGo_zip (s := { s with heap := h1 }) z1 ?_
    intro h2 z2 k2
    have p2 : IsPair h2 s.heap.objs.size xs[j] ys[j] := k2.extBut _ _ (Ne.symm (nT _ _ hz')) p1'
    refine assign_Tuple_tuple hh ⟨_, p2, rfl, _, rfl⟩ rfl rfl ?_
    intro h3 x3
    have kk : ∀ b o, h2.get? b = some o → h3.get? b = some o := fun b o e => x3 b o (Nat.ne_of_lt (Heap.lt_size e)) e
    refine hG fun zP zK => ?_
    obtain ⟨p1o, ei1, ci1, di1⟩ := j1
    obtain ⟨p2o, ei2, ci2, di2⟩ := j2
    refine zK ?_
    have B1 := B.shift (mu := [(z, zipO TI TO .none), (TO, tupO [a, b]), (i1, o1), (i2, o2)]) (rest := (TI, tupO [.ref i1, .ref i2]) :: (l1, lstO xs e1) :: (l2, lstO ys e2) :: mu) (mu' := [(z, zipO TI TO .none), (TO, tupO [xs[j], ys[j]]), (i1, p1o), (i2, p2o)]) (h' := h3) (t := s.toks) ?_ ?_ (List.Sublist.refl _) hz
    · refine assignInOrder_cons ?_
      refine wpAny_assign_Name ?_
      refine b_store B1 hL hk hl1 ?_
      intro s4 B4
      refine assignInOrder_cons ?_
      refine wpAny_assign_Name ?_
      refine b_store B4 hL hk hl2 ?_
      intro s5 B5
      refine assignInOrder_nil ?_
      refine wpC_mono (turn j m mu s5 _ _ (zmu2 z TI TO i1 i2 l1 l2 p1o p2o xs[j] ys[j] xs ys e1 e2) hlt hx hy hJ (B5.perm (List.perm_append_comm (l₁ := zmu2 z TI TO i1 i2 l1 l2 p1o p2o xs[j] ys[j] xs ys e1 e2)))) (fun f s₃ h₃ => ?_) fun _ _ e => e
      have fin : (∃ m' mu', J (j + 1) m' mu' ∧ Bod c he L m' (mu' ++ zmu2 z TI TO i1 i2 l1 l2 p1o p2o xs[j] ys[j] xs ys e1 e2) s₃) → ∃ n', n' < N - j ∧ ZI3 c he L z TI TO i1 i2 l1 l2 xs ys e1 e2 N J n' s₃ := by
        rintro ⟨m', mu', a1, a2⟩
        exact ⟨N - (j + 1), by omega, j + 1, p1o, p2o, _, _, m', mu', rfl, hlt, ci1, di1, ci2, di2, a1, a2.perm List.perm_append_comm⟩
      cases f with
      | next => exact fin h₃
      | cont => exact fin h₃
      | brk => exact h₃
      | ret v => exact h₃
    · intro b' o' hb e
      simp only [List.map_cons, List.map_nil, List.mem_cons, List.not_mem_nil, or_false, not_or] at hb
      exact kk _ _ (k2.extBut _ _ hb.1 (k1 _ _ hb.1 hb.2.1 hb.2.2.1 hb.2.2.2 e))
    · intro p hp
      simp only [List.mem_cons, List.not_mem_nil, or_false] at hp
      rcases hp with rfl | rfl | rfl | rfl
      · exact kk _ _ z2
      · exact kk _ _ (k2.extBut _ _ nd.TOz t1)
      · exact kk _ _ (k2.extBut _ _ nd.i1z ei1)
      · exact kk _ _ (k2.extBut _ _ nd.i2z ei2)
  · have ej : j = N := by omega
    subst ej
    refine wpAny_pyNext_zip_end hh nd hz' hTI hTO hi1 hi2 hl1' hl2' (.inl (Array.getElem?_eq_none (by omega))) ?_
    intro h1 k1
    have B1 := B.shift (mu := [(z, zipO TI TO .none), (TO, tupO [a, b]), (i1, o1), (i2, o2)]) (rest := (TI, tupO [.ref i1, .ref i2]) :: (l1, lstO xs e1) :: (l2, lstO ys e2) :: mu) (mu' := []) (h' := h1) (t := s.toks) ?_ (fun _ h => nomatch h) (List.nil_sublist _) hz
    · exact done m mu _ hJ (B1.drop (.cons _ (.cons _ (.cons _ (.refl _)))))
    · intro b' o' hb e
      simp only [List.map_cons, List.map_nil, List.mem_cons, List.not_mem_nil, or_false, not_or] at hb
      exact k1 _ _ hb.1 hb.2.1 hb.2.2.1 hb.2.2.2 e

/-- after a call of system_alias from this frame -/
theorem Bod.afterL {c : Cx} {he : Heap} {L : Addr} {m : List (Str × Value)} {mu : List (Addr × Obj)} {s s' : Shared} {ol : Obj} (B : Bod c he L m mu s) (hol : s.heap.get? L = some ol) (x : EvL c L ol s s') : Bod c he L m mu s' := by
  refine hG fun zP zK => ?_
  obtain ⟨o, es, ep, ho, hd, r⟩ := B.ns
  refine zK ?_
  rw [hol] at ho
  cases ho
  obtain ⟨sl, z⟩ := x.at_
  have hn := B.nod
  rw [List.nodup_cons] at hn
  refine ⟨x.inv, ⟨_, es, ep, z, hd, r⟩, fun b o e => x.keep _ _ (B.keep _ _ e) (fun hb => ?_) (fun q => ?_), B.hidT, B.hidL, B.hidM, fun p hp => x.keep _ _ (B.own p hp) (Bod.notTab _ (B.lowM p hp)) (fun q => hn.1 (q ▸ List.mem_map_of_mem hp)), B.nod, B.lowL, B.lowM, Nat.le_trans B.size x.size⟩
  · rw [B.hidT b hb] at e; cases e
  · rw [q, B.hidL] at e; cases e

/-- two tuples of the same texts are not unequal -/
theorem ne_tups {c : Cx} {A : Around} {s : Shared} {a b : Addr} {v1 v2 : List Value} {ys : List Str} {Q : Value → Shared → Prop} {E : Value → Shared → Prop} (g1 : s.heap.get? a = some (tupO v1)) (g2 : s.heap.get? b = some (tupO v2))
    (f1 : StrsAre v1 ys) (f2 : StrsAre v2 ys) (hok : ∀ y ∈ ys, PyData.strOk y = true) (hu : A.units + 64 < cLine) (h : Q (.bool false) s) : wpAny c.M A (compareOp .NotEq (.ref a) (.ref b)) Q E s := by
  have r1 : Reads s.heap (.ref a) (.tuple (ys.map PyData.str)) [] := .tuple g1 rfl rfl (reads_strs f1)
  have r2 : Reads s.heap (.ref b) (.tuple (ys.map PyData.str)) [] := .tuple g2 rfl rfl (reads_strs f2)
  have hsh : SeqAt.shaped (.tuple (ys.map PyData.str)) = true := by
    have h1 := canLay_strs ys hok
    have h2 := depth_strs ys
    simp [SeqAt.shaped, PyData.canLay0, PyData.depth, h1]
    lia
  refine ne_dataH r1 r2 hsh hsh hu ?_
  have heqv : PyData.eqv (.tuple (ys.map PyData.str)) (.tuple (ys.map PyData.str)) = true := by
    have := eqv_strs ys
    simp [PyData.eqv, this]
  rw [heqv]; exact h
end Mine
end
section
namespace Mine
open PySem PySem.W PySem.W.X PyProof.Rows PySem.Calls
open Sem (wp)

/-- what law's frame holds from here on -/
structure LawM (m : List (Str × Value)) (DP DN DB : Addr) (sh : Int) (t : Tok) : Prop where
  plain : m.lookup n_plain = some (.ref DP)
  named : m.lookup n_named = some (.ref DN)
  bare : m.lookup n_bare = some (.ref DB)
  shift : m.lookup n_shift = some (.int sh t)
theorem LawM.more {m : List (Str × Value)} {DP DN DB : Addr} {sh : Int} {t : Tok} (M : LawM m DP DN DB sh t) {x : Str} {v : Value} (h1 : (n_plain == x) = false) (h2 : (n_named == x) = false) (h3 : (n_bare == x) = false) (h4 : (n_shift == x) = false) : LawM ((x, v) :: m) DP DN DB sh t :=
  ⟨look_there h1 M.plain, look_there h2 M.named, look_there h3 M.bare, look_there h4 M.shift⟩

/-- the fields of a machine and what system_alias gives of them -/
def AOk (fs due : List Str) : Prop := ∃ sys rel ver, fs = [sys, rel, ver] ∧ aliasS sys rel ver = due ∧ rel.length ≤ 200 ∧ HeadOk (relHead rel) ∧ ((relTail rel).map (·.length)).sum + (relTail rel).length ≤ 1000 ∧ ∀ y ∈ due, PyData.strOk y = true

theorem fieldsIn_append {mu : List (Addr × Obj)} {xs ys : Array Value} {P N : List (List Str)} (h1 : FieldsIn mu xs P) (h2 : FieldsIn mu ys N) : FieldsIn mu (xs ++ ys) (P ++ N) := by
  refine ⟨by rw [Array.size_append, List.length_append, h1.1, h2.1], fun j fs hj => ?_⟩
  by_cases hlt : j < P.length
  · rw [List.getElem?_append_left hlt] at hj
    refine hG fun zP zK => ?_
    obtain ⟨a, its, ep, q, r⟩ := h1.2 j fs hj
    refine zK ?_
    exact ⟨a, its, ep, by rw [Array.getElem?_append_left (by rw [h1.1]; exact hlt)]; exact q, r⟩
  · have hge : P.length ≤ j := Nat.le_of_not_lt hlt
    rw [List.getElem?_append_right hge] at hj
    refine hG fun zP zK => ?_
    obtain ⟨a, its, ep, q, r⟩ := h2.2 _ fs hj
    refine zK ?_
    exact ⟨a, its, ep, by rw [Array.getElem?_append_right (by rw [h1.1]; exact hge), h1.1]; exact q, r⟩

theorem strs3 {vs : List Value} {a b d : Str} (h : StrsAre vs [a, b, d]) : ∃ t1 t2 t3, vs = [.str a t1, .str b t2, .str d t3] := by
  cases h with
  | cons _ t1 r => cases r with
    | cons _ t2 r => cases r with
      | cons _ t3 r => cases r; exact ⟨t1, t2, t3, rfl⟩

section
variable {c : Cx} {k : Nat} {A : Around} {s₀ s : Shared} {L : Addr} {m : List (Str × Value)} {mu : List (Addr × Obj)} {E : Value → Shared → Prop}

/-- system_alias(*fields) from law's frame -/
theorem e_sysalias {x : Str} {p1 p2 p3 p4 : Pos} {he : Heap} {a : Addr} {its : Array Value} {ep : Nat} {fs due : List Str} {Q : Value → Shared → Prop} (R' : Room (k + 1) A) (hfr : A.frames = some [envF c.w.params 268 L]) (hzL : he.objs.size ≤ L) (B : Bod c he L m mu s)
    (hx : m.lookup x = some (.ref a)) (hkx : (envF c.w.params 268 L).kindOf x = some .local) (hdx : (x == ("__debug__" : Str)) = false) (ga : s.heap.get? a = some (lstO its ep)) (hst : StrsAre its.toList fs) (hok : AOk fs due)
    (h : ∀ T vs s', StrsAre vs due → Bod c he L m ((T, tupO vs) :: mu) s' → Q (.ref T) s') :
    wpC c.M A (eval (.Call (.Name n_system_alias p1) [.Starred (.Name x p2) p3] [] p4) (envF c.w.params 268 L)) Q E s := by
  refine hG fun zP zK => ?_
  obtain ⟨sys, rel, ver, rfl, hal, hrl, hho, hjj, hso⟩ := hok
  refine zK ?_
  refine cC_name ?_
  refine b_glob B (gv_system_alias _) (by kernel_rfl) (by kernel_rfl) (by kernel_rfl) (by kernel_rfl) (by kernel_rfl) ?_
  refine cwC_star (P := fun h => (KS c.w.params).In h) (fun h X => keeps_K (by kernel_rfl) h X) ?_
  refine b_name B (envF_locals _ _ _) hx (by kernel_rfl) hkx hdx ?_
  have hz3 := strsAre_length hst
  rw [Array.length_toList] at hz3
  refine star_lst ga (by rw [hz3]; exact Nat.le_of_ble_eq_true rfl) ?_
  intro h2 k2
  have B2 := B.kept (h' := h2) (t := s.toks) k2 hzL
  refine ⟨B2.inv.kin, ?_⟩
  refine hG fun zP zK => ?_
  obtain ⟨t1, t2, t3, e3⟩ := strs3 hst
  refine zK ?_
  rw [e3]
  refine hG fun zP zK => ?_
  obtain ⟨oL, es, epL, hoL, hdL, hrL⟩ := B2.ns
  refine zK ?_
  refine sys_spec B2.inv R' hfr rfl (by show ScopeKind.function ≠ _; exact fun z => nomatch z) hoL (fun vs q => by rw [hdL] at q; cases q) B2.lowL hrl hho hjj ?_
  intro T v1 v2 v3 s3 hst3 ev hnone hlo hT
  rw [hal] at hst3
  have B3 := B2.afterL hoL ev
  refine h T _ s3 hst3 (B3.add hT ?_ hlo ?_ ?_)
  · cases q : he.get? T with
    | none => rfl
    | some o => rw [B2.keep _ _ q] at hnone; cases hnone
  · intro q
    rw [q, hoL] at hnone; cases hnone
  · intro q
    obtain ⟨p, hp, e⟩ := List.mem_map.mp q
    have := B2.own p hp
    rw [e, hnone] at this; cases this
end
end Mine
end
section
namespace Mine
open PySem PySem.W PySem.W.X PyProof.Rows PySem.Calls
open Sem (wp)

section
variable {c : Cx} {k : Nat} {A : Around} {s₀ s : Shared} {L : Addr} {m : List (Str × Value)} {mu : List (Addr × Obj)} {E : Value → Shared → Prop}

/-- zip(a, b) of two lists of the ledger -/
theorem e_zip2 {he : Heap} {D1 D2 : Addr} {xs ys : Array Value} {e1 e2 : Nat} {Q : Value → Shared → Prop} (B : Bod c he L m ((D1, lstO xs e1) :: (D2, lstO ys e2) :: mu) s)
    (h : ∀ z TI TO i1 i2 o1 o2 s', o1.cls = .type "list_iterator" → o1.data = .fields #[.ref D1, .int (0 : Nat) 0] → o2.cls = .type "list_iterator" → o2.data = .fields #[.ref D2, .int (0 : Nat) 0] →
      Bod c he L m (zmu2 z TI TO i1 i2 D1 D2 o1 o2 .none .none xs ys e1 e2 ++ mu) s' → Q (.ref z) s') : wpAny c.M A (call (.type "zip") [.ref D1, .ref D2]) Q E s := by
  refine call_zip_2 (xs := xs) (ys := ys) ⟨_, B.own (D1, lstO xs e1) (mI 0 rfl), rfl, _, rfl⟩ ⟨_, B.own (D2, lstO ys e2) (mI 1 rfl), rfl, _, rfl⟩ ?_
  intro h' hz hTI hTO hi1 hi2 hsz hk
  refine hG fun zP zK => ?_
  obtain ⟨o1, g1, c1, d1⟩ := hi1
  obtain ⟨o2, g2, c2, d2⟩ := hi2
  refine zK ?_
  have hle : s.heap.objs.size ≤ h'.objs.size := by rw [hsz]; exact Nat.le_add_right _ _
  generalize hZ : s.heap.objs.size = Z at *
  have M : MEv c [] [] [(Z + 4, zipO (Z + 2) (Z + 3) .none), (Z + 3, tupO [.none, .none]), (Z, o1), (Z + 1, o2), (Z + 2, tupO [.ref Z, .ref (Z + 1)])] s { s with heap := h' } := by
    refine ⟨B.inv.keeps (t := s.toks) hk (by rw [hZ]; exact hle), fun b o e _ _ => hk b o e, by rw [hZ]; exact hle, rfl, fun p hp => (nomatch hp), fun p hp => ?_, ?_⟩
    · simp only [List.mem_cons, List.not_mem_nil, or_false] at hp
      rw [hZ]
      rcases hp with rfl | rfl | rfl | rfl | rfl
      · exact ⟨hz, Nat.le_add_right _ _⟩
      · exact ⟨hTO, Nat.le_add_right _ _⟩
      · exact ⟨g1, Nat.le_refl _⟩
      · exact ⟨g2, Nat.le_add_right _ _⟩
      · exact ⟨hTI, Nat.le_add_right _ _⟩
    · simp
  have B2 := B.turned (mu := []) M
  exact h _ _ _ _ _ o1 o2 _ c1 d1 c2 d2 B2

/-- system_alias(*fields) != tuple(due): it is not -/
theorem law6_body {he : Heap} {a b : Addr} {its jts : Array Value} {ep eq : Nat} {fs due : List Str} {x y : Str} {p1 p2 p3 p4 q1 q2 q3 : Pos} {Q : Bool → Shared → Prop} {whole : Sem Value} {pos : Pos} (R' : Room (k + 1) A) (hfr : A.frames = some [envF c.w.params 268 L]) (hzL : he.objs.size ≤ L) (B : Bod c he L m mu s)
    (hx : m.lookup x = some (.ref a)) (hkx : (envF c.w.params 268 L).kindOf x = some .local) (hdx : (x == ("__debug__" : Str)) = false) (ha : (a, lstO its ep) ∈ mu) (hst : StrsAre its.toList fs) (hok : AOk fs due)
    (hy : m.lookup y = some (.ref b)) (hky : (envF c.w.params 268 L).kindOf y = some .local) (hdy : (y == ("__debug__" : Str)) = false) (hb : (b, lstO jts eq) ∈ mu) (hsd : StrsAre jts.toList due) (hdz : due.length ≤ 100)
    (h : ∀ s', Bod c he L m mu s' → Q false s') :
    wpC c.M A (isTrue (.Compare (.Call (.Name n_system_alias p1) [.Starred (.Name x p2) p3] [] p4) [.NotEq] [.Call (.Name n_tuple q1) [.Name y q2] [] q3] pos) (envF c.w.params 268 L) whole) Q E s := by
  have hso : ∀ z ∈ due, PyData.strOk z = true := hok.elim fun _ ⟨_, _, _, _, _, _, _, q⟩ => q
  refine wpC_isTrue_Compare1 ?_
  refine e_sysalias R' hfr hzL B hx hkx hdx (B.own _ ha) hst hok ?_
  intro T vs s2 hvs B2
  refine c_name ?_
  refine b_glob B2 (gv_tuple _) (by kernel_rfl) (by kernel_rfl) (by kernel_rfl) (by kernel_rfl) (by kernel_rfl) ?_
  refine cw_type ?_
  refine a_cons ?_
  refine b_name B2 (envF_locals _ _ _) hy (by kernel_rfl) hky hdy ?_
  refine a_nil ?_
  have hjz := strsAre_length hsd
  rw [Array.length_toList] at hjz
  refine call_tuple_list (items := jts) ⟨_, B2.own (b, lstO jts eq) (List.mem_cons_of_mem _ hb), rfl, _, rfl⟩ ?_ (by rw [hjz, sizeLine_val]; lia)
  intro h3 k3
  have B3 := B2.kept (h' := h3) (t := s2.toks) k3 hzL
  have B4 := B3.alloc (tupO jts.toList) s2.toks rfl
  have e4 : (tupO jts.toList) = { cls := .type "tuple", data := .seq jts } := by simp [tupO]
  rw [e4] at B4
  refine ne_tups (v1 := vs) (v2 := jts.toList) (ys := due) (B4.own (T, tupO vs) (mI 1 rfl)) ?_ hvs hsd hso R'.u64 ?_
  · rw [e4]; exact B4.own (h3.objs.size, _) (List.mem_cons_self ..)
  refine b_bool ?_
  exact h _ (B4.drop (.cons _ (.cons _ (.refl _))))

theorem law6 {Q : Flow → Shared → Prop} {DP DN DB : Addr} {ysP ysN : Array Value} {epP epN : Nat} {P N : List (List Str)} {sh : Int} {t : Tok} (R' : Room (k + 1) A) (hfr : A.frames = some [envF c.w.params 268 L]) (hzL : (Sees s₀).objs.size ≤ L) (B : Bod c (Sees s₀) L m mu s)
    (hm : LawM m DP DN DB sh t) (hDP : (DP, lstO ysP epP) ∈ mu) (hP : FieldsIn mu ysP P) (hDN : (DN, lstO ysN epN) ∈ mu) (hN : FieldsIn mu ysN N) (hz : P.length ≤ 100) (hPN : P.length = N.length) (hNz : ∀ fs ∈ N, fs.length ≤ 100)
    (hal : ∀ (j : Nat) (fs due : List Str), (P ++ N)[j]? = some fs → (N ++ N)[j]? = some due → AOk fs due)
    (h : ∀ m' s', LawM m' DP DN DB sh t → Bod c (Sees s₀) L m' mu s' → wpC c.M A (execs ((bodyF c.w.params 268).drop 6) (envF c.w.params 268 L)) Q E s') :
    wpC c.M A (execs ((bodyF c.w.params 268).drop 5) (envF c.w.params 268 L)) Q E s := by
  refine wpC_execs_cons ?_
  refine wpC_For ?_
  refine c_name ?_
  refine b_glob B (gv_zip _) (by kernel_rfl) (by kernel_rfl) (by kernel_rfl) (by kernel_rfl) (by kernel_rfl) ?_
  refine cw_type ?_
  refine a_cons ?_
  refine wpAny_BinOp ?_
  refine b_name B (envF_locals _ _ _) (hm.plain) (by kernel_rfl) (by kernel_rfl) (by kernel_rfl) ?_
  refine b_name B (envF_locals _ _ _) (hm.named) (by kernel_rfl) (by kernel_rfl) (by kernel_rfl) ?_
  refine PySem.P.add_list (items := ysP) (n := epP) (items2 := ysN) (n2 := epN) (B.own _ hDP) (B.own _ hDN) ?_ (by rw [sizeLine_val, hP.1, hN.1]; lia)
  have B1 := B.alloc (lstO (ysP ++ ysN) 0) s.toks rfl
  generalize s.heap.objs.size = D1 at B1 ⊢
  refine a_cons ?_
  refine wpAny_BinOp ?_
  refine b_name B1 (envF_locals _ _ _) (hm.named) (by kernel_rfl) (by kernel_rfl) (by kernel_rfl) ?_
  refine b_name B1 (envF_locals _ _ _) (hm.named) (by kernel_rfl) (by kernel_rfl) (by kernel_rfl) ?_
  refine PySem.P.add_list (items := ysN) (n := epN) (items2 := ysN) (n2 := epN) (B1.own (DN, lstO ysN epN) (List.mem_cons_of_mem _ hDN)) (B1.own (DN, lstO ysN epN) (List.mem_cons_of_mem _ hDN)) ?_ (by rw [sizeLine_val, hN.1]; lia)
  have B2 := B1.alloc (lstO (ysN ++ ysN) 0) s.toks rfl
  simp only [] at B2
  generalize hD2 : Array.size (Heap.objs _) = D2 at B2 ⊢
  refine a_nil ?_
  refine e_zip2 (B2.perm (List.Perm.swap _ _ _)) ?_
  intro z TI TO i1 i2 o1 o2 s3 c1 d1 c2 d2 B3
  refine wpAny_pyIter_zip (TI := TI) (TO := TO) (f0 := .none) (B3.own (z, zipO TI TO .none) (mI 0 rfl)) ?_
  refine zip2_loop (fun j m' mu' => LawM m' DP DN DB sh t ∧ mu' = mu) (ysP ++ ysN) (ysN ++ ysN) (P.length + N.length) (by rw [Array.size_append, hP.1, hN.1]) (by rw [Array.size_append, hN.1, hPN]) R'.handled (envF_locals _ _ _) (by kernel_rfl) (by kernel_rfl) (by kernel_rfl) hzL ?_ ?_ c1 d1 c2 d2 ⟨hm, rfl⟩ B3
  · rintro j m' mu' s4 x y zm hj hxj hyj ⟨hm', rfl⟩ B4
    have hF1 := fieldsIn_append hP hN
    have hF2 := fieldsIn_append hN hN
    obtain ⟨fs, hfs⟩ : ∃ fs, (P ++ N)[j]? = some fs := ⟨_, List.getElem?_eq_getElem (by rw [List.length_append]; exact hj)⟩
    obtain ⟨due, hdue⟩ : ∃ due, (N ++ N)[j]? = some due := ⟨_, List.getElem?_eq_getElem (by rw [List.length_append, ← hPN]; rw [← hPN] at hj; exact hj)⟩
    refine hG fun zP zK => ?_
    obtain ⟨a, its, ep, q1, q2, q3⟩ := hF1.2 j fs hfs
    obtain ⟨b, jts, ep2, r1, r2, r3⟩ := hF2.2 j due hdue
    refine zK ?_
    rw [hxj] at q1
    cases q1
    rw [hyj] at r1
    cases r1
    refine wpC_execs_cons ?_
    refine wpC_If ?_
    refine law6_body (x := n_fields) (y := n_due) R' hfr hzL B4 (look_there (by decide) look_here) (by kernel_rfl) (by decide) (List.mem_append_left _ q2) q3 (hal j fs due hfs hdue) look_here (by kernel_rfl) (by decide) (List.mem_append_left _ r2) r3 ?_ ?_
    · have := List.mem_of_getElem? hdue
      rcases List.mem_append.mp this with h1 | h1 <;> exact hNz due h1
    intro s5 B5
    refine (if_neg Bool.false_ne_true).mpr ?_
    refine wpC_of ?_
    refine wpAny_execs_nil ?_
    refine wpC_of ?_
    refine wpAny_execs_nil ?_
    exact ⟨_, _, ⟨(hm'.more (by decide) (by decide) (by decide) (by decide)).more (by decide) (by decide) (by decide) (by decide), rfl⟩, B5⟩
  · rintro m' mu' s4 ⟨hm', rfl⟩ B4
    refine wpAny_execs_nil ?_
    exact h m' s4 hm' B4
end
end Mine
end
section
namespace Mine
open PySem PySem.W PySem.W.X PyProof.Rows PySem.Calls
open Sem (wp)

/-- the machines are read back at that width -/
def TellOk (W : Int) (P : List (List Str)) : Prop := ∃ ws ls ps p, ToldOk W P ws ls ps p ∧ toldOf W P = P.map (·.map blankOf)
section
variable {c : Cx} {k : Nat} {A : Around} {s₀ s : Shared} {L : Addr} {m : List (Str × Value)} {mu : List (Addr × Obj)} {E : Value → Shared → Prop}

theorem law7 {Q : Flow → Shared → Prop} {DP DN DB : Addr} {ysP ysN ysB : Array Value} {epP epN epB : Nat} {P N : List (List Str)} {sh : Int} {t : Tok} (R' : Room (k + 12) A) (hzL : (Sees s₀).objs.size ≤ L) (B : Bod c (Sees s₀) L m mu s)
    (hm : LawM m DP DN DB sh t) (hDP : (DP, lstO ysP epP) ∈ mu) (hP : FieldsIn mu ysP P) (hDN : (DN, lstO ysN epN) ∈ mu) (hN : FieldsIn mu ysN N) (hDB : (DB, lstO ysB epB) ∈ mu) (hB : FieldsIn mu ysB (P.map (·.map blankOf)))
    (hzN : N.length ≤ 100) (hNz : ∀ fs ∈ N, fs.length ≤ 100)
    (hokP : ∀ fs ∈ P, ∀ y ∈ fs, PyData.strOk (blankOf y) = true) (hokN : ∀ fs ∈ N, ∀ y ∈ fs, PyData.strOk (blankOf y) = true)
    (htP : ∀ W : Int, 0 ≤ W → W < 1000 → TellOk W P) (htN : ∀ W : Int, 0 ≤ W → W < 1000 → TellOk W N)
    (h : ∀ m' s', LawM m' DP DN DB sh t → Bod c (Sees s₀) L m' mu s' → wpC c.M A (execs ((bodyF c.w.params 268).drop 7) (envF c.w.params 268 L)) Q E s') :
    wpC c.M A (execs ((bodyF c.w.params 268).drop 6) (envF c.w.params 268 L)) Q E s := by
  refine wpC_execs_cons ?_
  refine wpC_For ?_
  refine e_tupleQ fun q1 e1 hq1 => ?_
  refine a_cons ?_
  refine b_int B ?_
  intro t1 s1 B1
  refine a_cons ?_
  refine wpAny_BinOp ?_
  refine wpAny_BinOp ?_
  refine b_int B1 ?_
  intro t2 s2 B2
  refine b_name B2 (envF_locals _ _ _) (hm.shift) (by kernel_rfl) (by kernel_rfl) (by kernel_rfl) ?_
  refine PyProof.Rows.add_int ?_
  have B3 := B2.toks (s2.toks + 1)
  refine b_int B3 ?_
  intro t4 s4 B4
  refine PyProof.Rows.mod_int' (by decide) ?_
  have B5 := B4.toks (s4.toks + 1)
  refine a_cons ?_
  refine b_int B5 ?_
  intro t6 s6 B6
  refine a_nil ?_
  refine hq1 _ _ _ _ _ _ (by walk_at "sz") B6 ?_
  intro T s7 B7 hT
  have hfm := fmod_range (a := 36 + sh) (b := 64) (by decide)
  have B8 := B7.alloc ⟨.type "tuple_iterator", none, .fields #[.ref T, .int 0 0], #[]⟩ s7.toks rfl
  refine wpAny_pyIter_tuple (items := _) ⟨_, B7.own (T, tupO [.int 0 t1, .int ((36 + sh).fmod 64) s4.toks, .int 999 t6]) (List.mem_cons_self ..), rfl, _, rfl⟩ ?_
  generalize s7.heap.objs.size = IT at B8 ⊢
  refine codeC_of ?_
  refine tup_loop (fun j m' mu' => LawM m' DP DN DB sh t ∧ mu' = mu) [.int 0 t1, .int ((36 + sh).fmod 64) s4.toks, .int 999 t6] R'.handled (envF_locals _ _ _) (by kernel_rfl) (by kernel_rfl) hzL ?_ ?_ rfl rfl ⟨hm, rfl⟩ (B8.perm (List.perm_append_comm (l₁ := [(IT, _), (T, _)])))
  · rintro j m' mu' s9 x zm hx ⟨hm', rfl⟩ B9
    refine hG fun zP zK => ?_
    obtain ⟨W, tw, rfl, hW0, hW1⟩ : ∃ (W : Int) (tw : Tok), x = .int W tw ∧ 0 ≤ W ∧ W < 1000 := by
      rcases j with _ | _ | _ | j
      · simp at hx; exact ⟨0, _, hx.symm, by decide, by decide⟩
      · simp at hx; exact ⟨_, _, hx.symm, hfm.1, by omega⟩
      · simp at hx; exact ⟨999, _, hx.symm, by decide, by decide⟩
      · simp at hx
    obtain ⟨ws1, ls1, ps1, q1, T1, E1⟩ := htP W hW0 hW1
    obtain ⟨ws2, ls2, ps2, q2, T2, E2⟩ := htN W hW0 hW1
    refine zK ?_
    have hmw : ((n_width, Value.int W tw) :: m').lookup n_width = some (.int W tw) := look_here
    have hm9 : LawM ((n_width, .int W tw) :: m') DP DN DB sh t := hm'.more (by decide) (by decide) (by decide) (by decide)
    have inl : ∀ {p}, p ∈ mu' → p ∈ mu' ++ zm := fun hp => List.mem_append_left _ hp
    refine sK ?_
    refine wpAny_If ?_
    refine wpAny_isTrue_BoolOp ?_
    refine wpAny_allTrue_Or_cons ?_
    refine wpAny_isTrue_Compare1 ?_
    refine c_name ?_
    refine b_glob B9 (gv_law_told_u _) (by kernel_rfl) (by kernel_rfl) (by kernel_rfl) (by kernel_rfl) (by kernel_rfl) ?_
    refine cw_def (fo_263 _) (fd_263 _) ?_
    refine a_cons ?_
    refine b_name B9 (envF_locals _ _ _) (hm9.plain) (by kernel_rfl) (by kernel_rfl) (by kernel_rfl) ?_
    refine a_cons ?_
    refine b_name B9 (envF_locals _ _ _) (hmw) (by kernel_rfl) (by kernel_rfl) (by kernel_rfl) ?_
    refine a_nil ?_
    refine ⟨B9.inv, ?_⟩
    refine told_spec (k := k) B9.inv R' (B9.own _ (inl hDP)) (B9.lowM _ (inl hDP)) (hP.at B9 fun p hp => inl hp) T1 ?_
    intro D1 ys1 ep1 nest1 s10 M10 F10
    rw [E1] at F10
    have B10 := B9.turned (mu := []) M10
    refine b_name B10 (envF_locals _ _ _) (hm9.bare) (by kernel_rfl) (by kernel_rfl) (by kernel_rfl) ?_
    refine ne_rows (B10.own (D1, lstO ys1 ep1) (mI 0 rfl)) (B10.own (DB, lstO ysB epB) (by simp [hDB])) (F10.at B10 fun p hp => by simp [hp]) (hB.at B10 fun p hp => by simp [hp]) ?_ R'.u64 ?_
    · intro fs hfs y hy
      obtain ⟨fs0, h0, rfl⟩ := List.mem_map.mp hfs
      obtain ⟨y0, hy0, rfl⟩ := List.mem_map.mp hy
      exact hokP fs0 h0 y0 hy0
    refine b_bool ?_
    refine (if_neg Bool.false_ne_true).mpr ?_
    have B10 := B10.drop (mu' := mu' ++ zm) (List.sublist_append_right _ _)
    refine wpAny_allTrue_Or_cons ?_
    refine wpAny_isTrue_Compare1 ?_
    refine c_name ?_
    refine b_glob B10 (gv_law_told_u _) (by kernel_rfl) (by kernel_rfl) (by kernel_rfl) (by kernel_rfl) (by kernel_rfl) ?_
    refine cw_def (fo_263 _) (fd_263 _) ?_
    refine a_cons ?_
    refine b_name B10 (envF_locals _ _ _) (hm9.named) (by kernel_rfl) (by kernel_rfl) (by kernel_rfl) ?_
    refine a_cons ?_
    refine b_name B10 (envF_locals _ _ _) (hmw) (by kernel_rfl) (by kernel_rfl) (by kernel_rfl) ?_
    refine a_nil ?_
    refine ⟨B10.inv, ?_⟩
    refine told_spec (k := k) B10.inv R' (B10.own _ (inl hDN)) (B10.lowM _ (inl hDN)) (hN.at B10 fun p hp => inl hp) T2 ?_
    intro D2 ys2 ep2 nest2 s11 M11 F11
    rw [E2] at F11
    have B11 := B10.turned (mu := []) M11
    rw [List.nil_append] at B11
    refine e_comp (fun j y nw => ∃ fs a its ep, N[j]? = some fs ∧ y = .ref a ∧ (a, lstO its ep) ∈ nw ∧ StrsAre its.toList (fs.map blankOf)) R'.handled (by kernel_rfl) (by kernel_rfl) (by decide) (by decide) (by decide) (fun K1 E1 hK1 => ?_)
    refine b_name B11 (envF_locals _ _ _) (hm9.named) (by kernel_rfl) (by kernel_rfl) (by kernel_rfl) ?_
    have inr : ∀ {p}, p ∈ mu' → p ∈ ((D2, lstO ys2 ep2) :: nest2) ++ (mu' ++ zm) := fun hp => List.mem_append_right _ (inl hp)
    have gDN := B11.own _ (inr hDN)
    have lDN := B11.lowM _ (inr hDN)
    refine hK1 DN ysN _ _ B11.inv gDN rfl ⟨_, rfl⟩ lDN (by rw [hN.1]; omega) ?_ ?_
    · intro j v C mC muC s2 E' hv hC B2
      refine hG fun zP zK => ?_
      obtain ⟨fs, hfs⟩ : ∃ fs, N[j]? = some fs := by
        have hj : j < ysN.size := (Array.getElem?_eq_some_iff.mp hv).1
        exact ⟨_, List.getElem?_eq_getElem (by rw [← hN.1]; exact hj)⟩
      obtain ⟨a, its, ep, hv', hin, hst⟩ := hN.2 j fs hfs
      refine zK ?_
      rw [hv] at hv'
      cases hv'
      have lo := B11.lowM _ (inr hin)
      have ga := B2.see _ _ lo (B11.own _ (inr hin))
      have hitz : its.size ≤ 100 := by
        have h1 := strsAre_length hst
        rw [Array.length_toList] at h1
        rw [h1]; exact hNz fs (List.mem_of_getElem? hfs)
      refine c_name ?_
      refine b_glob B2 (gv_law_bare_u _) rfl (by kernel_rfl) rfl (by kernel_rfl) (by kernel_rfl) ?_
      refine cw_def (fo_251 _) (fd_251 _) ?_
      refine a_cons ?_
      refine b_name B2 rfl look_here rfl (by kernel_rfl) (by kernel_rfl) ?_
      refine a_nil ?_
      refine ⟨B2.inv, ?_⟩
      refine bare_spec (k := k + 11) B2.inv R' ga lo hst (by omega) ?_
      intro D ys ep2 s3 hys M3
      have B4 := B2.turned (mu := []) M3
      refine ⟨[(D, lstO ys ep2)], ⟨fs, D, ys, ep2, hfs, rfl, List.mem_cons_self .., hys⟩, ?_, B4⟩
      intro p hp
      have h1 := (M3.new _ hp).2
      have h2 := B2.size
      rw [hideAll_size] at h2
      exact Nat.le_trans h2 h1
    · intro D ys ep nest s12 M12 hys hF
      have B12 := B11.turned (mu := []) M12
      have hFI : FieldsIn nest ys (N.map (·.map blankOf)) := by
        refine ⟨by rw [hys, hN.1, List.length_map], ?_⟩
        intro j fs hj
        rw [List.getElem?_map] at hj
        obtain ⟨fs0, hfs, rfl⟩ := Option.map_eq_some_iff.mp hj
        have hlt : j < ys.size := by
          rw [hys, hN.1]
          exact (List.getElem?_eq_some_iff.mp hfs).1
        refine hG fun zP zK => ?_
        obtain ⟨nw, ⟨fs', a, its, ep', e1, e2, e3, e4⟩, hin⟩ := hF j ys[j] (Array.getElem?_eq_getElem hlt)
        refine zK ?_
        rw [hfs] at e1
        cases e1
        exact ⟨a, _, _, by rw [Array.getElem?_eq_getElem hlt, e2], hin _ e3, e4⟩
      refine ne_rows (B12.own (D2, lstO ys2 ep2) (by simp)) (B12.own (D, lstO ys ep) (mI 0 rfl)) (F11.at B12 fun p hp => by simp [hp]) (hFI.at B12 fun p hp => by simp [hp]) ?_ R'.u64 ?_
      · intro fs hfs y hy
        obtain ⟨fs0, h0, rfl⟩ := List.mem_map.mp hfs
        obtain ⟨y0, hy0, rfl⟩ := List.mem_map.mp hy
        exact hokN fs0 h0 y0 hy0
      refine b_bool ?_
      refine (if_neg Bool.false_ne_true).mpr ?_
      refine wpAny_allTrue_Or_nil ?_
      refine (if_neg Bool.false_ne_true).mpr ?_
      refine wpAny_execs_nil ?_
      refine wpAny_execs_nil ?_
      refine ⟨_, _, ⟨hm9, rfl⟩, B12.drop ?_⟩
      exact List.Sublist.trans (List.sublist_append_right ((D2, lstO ys2 ep2) :: nest2) _) (List.sublist_append_right ((D, lstO ys ep) :: nest) _)
  · rintro m' mu' s9 ⟨hm', rfl⟩ B9
    refine wpAny_execs_nil ?_
    exact h m' s9 hm' B9
end
end Mine
end
section
namespace Mine
open PySem PySem.W PySem.W.X PyProof.Rows PySem.Calls
open Sem (wp)

structure Z3 (z TI TO i1 i2 i3 l1 l2 l3 : Addr) : Prop where
  TOz : TO ≠ z
  i1z : i1 ≠ z
  i2z : i2 ≠ z
  i3z : i3 ≠ z
  TOi1 : TO ≠ i1
  TOi2 : TO ≠ i2
  TOi3 : TO ≠ i3
  i12 : i1 ≠ i2
  i13 : i1 ≠ i3
  i23 : i2 ≠ i3
  l1z : l1 ≠ z
  l2z : l2 ≠ z
  l3z : l3 ≠ z
  l2TO : l2 ≠ TO
  l3TO : l3 ≠ TO
  l2i1 : l2 ≠ i1
  l3i1 : l3 ≠ i1
  l3i2 : l3 ≠ i2
abbrev IsTrip (h : Heap) (T : Addr) (a b d : Value) : Prop := h.get? T = some { cls := .type "tuple", data := .seq #[a, b, d] }
section
variable {prog : Program} {w : World} {A : Around} {E : Value → Shared → Prop} {s : Shared}
theorem updateSeq_trip {T : Addr} {a b d x : Value} {k : Nat} {Q : Unit → Shared → Prop} (hT : IsTrip s.heap T a b d)
    (h : ∀ h', h'.get? T = some { cls := .type "tuple", data := .seq ((#[a, b, d] : Array Value).setIfInBounds k x) } → Heap.SameBut T s.heap h' → Q () { s with heap := h' }) :
    wpAny (model prog w) A (updateSeq T (·.setIfInBounds k x)) Q E s := by
  refine wpAny_updateSeq hT rfl (h _ ?_ (Heap.SameBut.update ..))
  rw [Heap.get?_update_self _ hT rfl]
  simp [Obj.mapSeq]

theorem zip3_item {z TI TO i1 i2 i3 l1 l2 l3 : Addr} {k : Nat} {xs ys us : Array Value} {x y u a b d : Value} {Q : Value → Shared → Prop} (D : Z3 z TI TO i1 i2 i3 l1 l2 l3)
    (hz : IsZip s.heap z TI TO .none) (hTI : IsTrip s.heap TI (.ref i1) (.ref i2) (.ref i3)) (hTO : IsTrip s.heap TO a b d)
    (h1 : s.heap.IsListIter i1 l1 k) (h2 : s.heap.IsListIter i2 l2 k) (h3 : s.heap.IsListIter i3 l3 k) (hl1 : s.heap.IsList l1 xs) (hl2 : s.heap.IsList l2 ys) (hl3 : s.heap.IsList l3 us) (hx : xs[k]? = some x) (hy : ys[k]? = some y) (hu : us[k]? = some u)
    (hQ : ∀ h', IsZip h' z TI TO (rawInt s.heap.objs.size) → IsTrip h' TO x y u → h'.IsListIter i1 l1 (k + 1) → h'.IsListIter i2 l2 (k + 1) → h'.IsListIter i3 l3 (k + 1) → IsTrip h' s.heap.objs.size x y u → h'.objs.size = s.heap.objs.size + 1 →
      (∀ c o, c ≠ z → c ≠ TO → c ≠ i1 → c ≠ i2 → c ≠ i3 → s.heap.get? c = some o → h'.get? c = some o) → Q (.ref s.heap.objs.size) { s with heap := h' }) :
    wpAny (model prog w) A (Builtin.«zip.__next__» ⟨[.ref z], []⟩) (fun fin s' => ∃ v, fin = .done (.ret v) ∧ Q v s') E s := by
  show wpAny _ _ (field (.ref z) 2 >>= _) _ _ _
  refine wpAny_bind (wpAny_field hz rfl (x := .bool false) rfl ?_)
  show wpAny _ _ (field (.ref z) 3 >>= _) _ _ _
  refine wpAny_bind (wpAny_field hz rfl (x := .ref TI) rfl ?_)
  refine wpAny_bind (wpAny_seqItems hTI rfl ?_)
  show wpAny _ _ (Builtin.SmallTypes.ownedTupleIsFree (.ref z) >>= _) _ _ _
  refine wpAny_bind ?_
  unfold Builtin.SmallTypes.ownedTupleIsFree
  refine wpAny_bind (wpAny_field hz rfl (x := .none) rfl (wpAny_pure ?_))
  simp only [if_true]
  refine wpAny_bind (wpAny_rule ?_)
  refine wpAny_bind (wpAny_field hz rfl (x := .ref TO) rfl ?_)
  refine wpAny_bind (wpAny_setField_rec hz (by simp) fun g₁ hz₁ hs₁ => ?_)
  replace hz₁ : IsZip g₁ z TI TO .ellipsis := hz₁
  refine wpAny_bind ?_
  simp only [List.zipIdx_cons, List.zipIdx_nil, List.forIn_cons, List.forIn_nil]
  refine wpAny_bind (wpAny_bind (wpAny_onRaise ?_))
  show wpAny _ _ (Builtin.SmallTypes.nextOf (.ref i1) >>= _) _ _ _
  refine wpAny_bind (wpAny_nextOf_list_item (h1.extBut hs₁.extBut D.i1z) (hl1.extBut hs₁.extBut D.l1z) hx fun g₂ h1₂ hs₂ => wpAny_pure ?_)
  have hTO₂ : IsTrip g₂ TO a b d := hs₂.extBut _ _ D.TOi1 (hs₁.extBut _ _ D.TOz hTO)
  refine wpAny_bind (wpAny_seqItems hTO₂ rfl ?_)
  refine wpAny_bind (updateSeq_trip hTO₂ fun g₃ hTO₃ hs₃ => ?_)
  replace hTO₃ : IsTrip g₃ TO x b d := hTO₃
  refine wpAny_bind (wpAny_letGo (wpAny_pure ?_))
  refine wpAny_bind (wpAny_bind (wpAny_onRaise ?_))
  show wpAny _ _ (Builtin.SmallTypes.nextOf (.ref i2) >>= _) _ _ _
  refine wpAny_bind (wpAny_nextOf_list_item (((h2.extBut hs₁.extBut D.i2z).extBut hs₂.extBut D.i12.symm).extBut hs₃.extBut D.TOi2.symm)
    (((hl2.extBut hs₁.extBut D.l2z).extBut hs₂.extBut D.l2i1).extBut hs₃.extBut D.l2TO) hy fun g₄ h2₄ hs₄ => wpAny_pure ?_)
  have hTO₄ : IsTrip g₄ TO x b d := hs₄.extBut _ _ D.TOi2 hTO₃
  refine wpAny_bind (wpAny_seqItems hTO₄ rfl ?_)
  refine wpAny_bind (updateSeq_trip hTO₄ fun g₅ hTO₅ hs₅ => ?_)
  replace hTO₅ : IsTrip g₅ TO x y d := hTO₅
  refine wpAny_bind (wpAny_letGo (wpAny_pure ?_))
  refine wpAny_bind (wpAny_bind (wpAny_onRaise ?_))
  show wpAny _ _ (Builtin.SmallTypes.nextOf (.ref i3) >>= _) _ _ _
  refine wpAny_bind (wpAny_nextOf_list_item (((((h3.extBut hs₁.extBut D.i3z).extBut hs₂.extBut D.i13.symm).extBut hs₃.extBut D.TOi3.symm).extBut hs₄.extBut D.i23.symm).extBut hs₅.extBut D.TOi3.symm)
    (((((hl3.extBut hs₁.extBut D.l3z).extBut hs₂.extBut D.l3i1).extBut hs₃.extBut D.l3TO).extBut hs₄.extBut D.l3i2).extBut hs₅.extBut D.l3TO) hu fun g₆ h3₆ hs₆ => wpAny_pure ?_)
  have hTO₆ : IsTrip g₆ TO x y d := hs₆.extBut _ _ D.TOi3 hTO₅
  refine wpAny_bind (wpAny_seqItems hTO₆ rfl ?_)
  refine wpAny_bind (updateSeq_trip hTO₆ fun g₇ hTO₇ hs₇ => ?_)
  replace hTO₇ : IsTrip g₇ TO x y u := hTO₇
  refine wpAny_bind (wpAny_letGo (wpAny_pure (wpAny_pure ?_)))
  refine wpAny_bind (wpAny_seqItems hTO₇ rfl ?_)
  refine wpAny_bind (wpAny_newTuple ?_)
  have hsz : g₇.objs.size = s.heap.objs.size := by rw [hs₇.1, hs₆.1, hs₅.1, hs₄.1, hs₃.1, hs₂.1, hs₁.1]
  have hz₇ : IsZip g₇ z TI TO .ellipsis := hs₇.extBut _ _ D.TOz.symm (hs₆.extBut _ _ D.i3z.symm (hs₅.extBut _ _ D.TOz.symm (hs₄.extBut _ _ D.i2z.symm (hs₃.extBut _ _ D.TOz.symm (hs₂.extBut _ _ D.i1z.symm hz₁)))))
  have hk₇ : ∀ c o, c ≠ z → c ≠ TO → c ≠ i1 → c ≠ i2 → c ≠ i3 → s.heap.get? c = some o → g₇.get? c = some o := fun c o c1 c2 c3 c4 c5 e =>
    hs₇.extBut _ _ c2 (hs₆.extBut _ _ c5 (hs₅.extBut _ _ c2 (hs₄.extBut _ _ c4 (hs₃.extBut _ _ c2 (hs₂.extBut _ _ c3 (hs₁.extBut _ _ c1 e))))))
  have h1₇ : g₇.IsListIter i1 l1 (k + 1) := ((((h1₂.extBut hs₃.extBut D.TOi1.symm).extBut hs₄.extBut D.i12).extBut hs₅.extBut D.TOi1.symm).extBut hs₆.extBut D.i13).extBut hs₇.extBut D.TOi1.symm
  have h2₇ : g₇.IsListIter i2 l2 (k + 1) := ((h2₄.extBut hs₅.extBut D.TOi2.symm).extBut hs₆.extBut D.i23).extBut hs₇.extBut D.TOi2.symm
  have h3₇ : g₇.IsListIter i3 l3 (k + 1) := h3₆.extBut hs₇.extBut D.TOi3.symm
  have hzlt : z < g₇.objs.size := Heap.lt_size hz₇
  show wpAny _ _ (Builtin.SmallTypes.ownedTupleHandOut (.ref z) (.ref g₇.objs.size) >>= _) _ _ _
  refine wpAny_bind ?_
  unfold Builtin.SmallTypes.ownedTupleHandOut
  have hz₈ : IsZip (g₇.push { cls := .type "tuple", data := .seq #[x, y, u] }) z TI TO .ellipsis := Heap.get?_push_of_some _ hz₇
  refine wpAny_bind (wpAny_setField_rec hz₈ (by simp) fun h₇ hz₇' hs₇' => ?_)
  replace hz₇' : IsZip h₇ z TI TO (rawInt g₇.objs.size) := hz₇'
  refine wpAny_setField_rec hz₇' (by simp) fun h₈ hz₈' hs₈ => ?_
  replace hz₈' : IsZip h₈ z TI TO (rawInt g₇.objs.size) := hz₈'
  have up : ∀ c o, c ≠ z → g₇.get? c = some o → h₈.get? c = some o := fun c o c1 e => hs₈.extBut _ _ c1 (hs₇'.extBut _ _ c1 (Heap.get?_push_of_some _ e))
  have hT₈ : IsTrip h₈ g₇.objs.size x y u := hs₈.extBut _ _ (Nat.ne_of_gt hzlt) (hs₇'.extBut _ _ (Nat.ne_of_gt hzlt) (Heap.get?_push_size _ rfl))
  have hz8 : h₈.objs.size = g₇.objs.size + 1 := by rw [hs₈.1, hs₇'.1, Heap.size_push]
  rw [hsz] at hz₈' hT₈ hz8
  refine wpAny_pure ⟨_, rfl, ?_⟩
  show Q (.ref g₇.objs.size) _
  rw [hsz]
  exact hQ h₈ hz₈' (up _ _ D.TOz hTO₇) (h1₇.at fun o e => up _ o D.i1z e) (h2₇.at fun o e => up _ o D.i2z e) (h3₇.at fun o e => up _ o D.i3z e) hT₈ hz8 fun c o c1 c2 c3 c4 c5 e => up c o c1 (hk₇ c o c1 c2 c3 c4 c5 e)

theorem zip3_end {z TI TO i1 i2 i3 l1 l2 l3 : Addr} {k : Nat} {xs : Array Value} {a b d : Value} {Q : PySem.Fin → Shared → Prop} (hh : A.handled = none) (D : Z3 z TI TO i1 i2 i3 l1 l2 l3)
    (hz : IsZip s.heap z TI TO .none) (hTI : IsTrip s.heap TI (.ref i1) (.ref i2) (.ref i3)) (hTO : IsTrip s.heap TO a b d)
    (h1 : s.heap.IsListIter i1 l1 k) (hl : s.heap.IsList l1 xs) (hx : xs[k]? = none)
    (hE : ∀ h' e, (∀ c o, c ≠ z → c ≠ TO → c ≠ i1 → s.heap.get? c = some o → h'.get? c = some o) → (∃ o, h'.get? e = some o ∧ o.cls = .type "StopIteration") → E (.ref e) { s with heap := h' }) :
    wpAny (model prog w) A (Builtin.«zip.__next__» ⟨[.ref z], []⟩) Q E s := by
  show wpAny _ _ (field (.ref z) 2 >>= _) _ _ _
  refine wpAny_bind (wpAny_field hz rfl (x := .bool false) rfl ?_)
  show wpAny _ _ (field (.ref z) 3 >>= _) _ _ _
  refine wpAny_bind (wpAny_field hz rfl (x := .ref TI) rfl ?_)
  refine wpAny_bind (wpAny_seqItems hTI rfl ?_)
  show wpAny _ _ (Builtin.SmallTypes.ownedTupleIsFree (.ref z) >>= _) _ _ _
  refine wpAny_bind ?_
  unfold Builtin.SmallTypes.ownedTupleIsFree
  refine wpAny_bind (wpAny_field hz rfl (x := .none) rfl (wpAny_pure ?_))
  simp only [if_true]
  refine wpAny_bind (wpAny_rule ?_)
  refine wpAny_bind (wpAny_field hz rfl (x := .ref TO) rfl ?_)
  refine wpAny_bind (wpAny_setField_rec hz (by simp) fun h₁ hz₁ hs₁ => ?_)
  replace hz₁ : IsZip h₁ z TI TO .ellipsis := hz₁
  refine wpAny_bind ?_
  simp only [List.zipIdx_cons, List.zipIdx_nil, List.forIn_cons, List.forIn_nil]
  refine wpAny_bind (wpAny_bind (wpAny_onRaise ?_))
  show wpAny _ _ (Builtin.SmallTypes.nextOf (.ref i1) >>= _) _ _ _
  refine wpAny_bind (wpAny_nextOf_list_end hh (h1.extBut hs₁.extBut D.i1z) (hl.extBut hs₁.extBut D.l1z) hx fun h₂ e hs₂ he => ?_)
  obtain ⟨oe, hoe, hce⟩ := he
  have hz₂ : IsZip h₂ z TI TO .ellipsis := hs₂ _ _ D.i1z.symm hz₁
  have hez : e ≠ z := fun x => by subst x; rw [hz₂] at hoe; cases hoe; simp at hce
  exact wpAny_setField_rec hz₂ (by simp) fun h₃ _ hs₃ => hE h₃ e (fun c o c1 _ c3 x => hs₃.extBut _ _ c1 (hs₂ _ _ c3 (hs₁.extBut _ _ c1 x))) ⟨oe, hs₃.extBut _ _ hez hoe, hce⟩

theorem next3_item {z TI TO i1 i2 i3 l1 l2 l3 : Addr} {k : Nat} {xs ys us : Array Value} {x y u a b d : Value} {Q : Option Value → Shared → Prop} (D : Z3 z TI TO i1 i2 i3 l1 l2 l3)
    (hz : IsZip s.heap z TI TO .none) (hTI : IsTrip s.heap TI (.ref i1) (.ref i2) (.ref i3)) (hTO : IsTrip s.heap TO a b d)
    (h1 : s.heap.IsListIter i1 l1 k) (h2 : s.heap.IsListIter i2 l2 k) (h3 : s.heap.IsListIter i3 l3 k) (hl1 : s.heap.IsList l1 xs) (hl2 : s.heap.IsList l2 ys) (hl3 : s.heap.IsList l3 us) (hx : xs[k]? = some x) (hy : ys[k]? = some y) (hu : us[k]? = some u)
    (hQ : ∀ h', IsZip h' z TI TO (rawInt s.heap.objs.size) → IsTrip h' TO x y u → h'.IsListIter i1 l1 (k + 1) → h'.IsListIter i2 l2 (k + 1) → h'.IsListIter i3 l3 (k + 1) → IsTrip h' s.heap.objs.size x y u → h'.objs.size = s.heap.objs.size + 1 →
      (∀ c o, c ≠ z → c ≠ TO → c ≠ i1 → c ≠ i2 → c ≠ i3 → s.heap.get? c = some o → h'.get? c = some o) → Q (some (.ref s.heap.objs.size)) { s with heap := h' }) :
    wpAny (model prog w) A (pyNext (.ref z)) Q E s := by
  have hT : s.TypeIs (.ref z) "zip" := ⟨_, hz, rfl⟩
  unfold pyNext
  exact wpAny_bind (wpAny_attempt (wpAny_callSpecial?_slot (name := Str.ofString "__next__") hT F.slot_zip_next
    (wpAny_call_entry F.slot_zip_next hT F.entry_zip_next
      (zip3_item D hz hTI hTO h1 h2 h3 hl1 hl2 hl3 hx hy hu fun h' a1 a2 a3 a4 a5 a6 a7 a8 => wpAny_pure (hQ h' a1 a2 a3 a4 a5 a6 a7 a8)) (F.args_zip_next_1 _))))
theorem next3_end {z TI TO i1 i2 i3 l1 l2 l3 : Addr} {k : Nat} {xs : Array Value} {a b d : Value} {Q : Option Value → Shared → Prop} (hh : A.handled = none) (D : Z3 z TI TO i1 i2 i3 l1 l2 l3)
    (hz : IsZip s.heap z TI TO .none) (hTI : IsTrip s.heap TI (.ref i1) (.ref i2) (.ref i3)) (hTO : IsTrip s.heap TO a b d)
    (h1 : s.heap.IsListIter i1 l1 k) (hl : s.heap.IsList l1 xs) (hx : xs[k]? = none)
    (hQ : ∀ h', (∀ c o, c ≠ z → c ≠ TO → c ≠ i1 → s.heap.get? c = some o → h'.get? c = some o) → Q none { s with heap := h' }) : wpAny (model prog w) A (pyNext (.ref z)) Q E s := by
  have hT : s.TypeIs (.ref z) "zip" := ⟨_, hz, rfl⟩
  unfold pyNext
  refine wpAny_bind (wpAny_attempt (wpAny_callSpecial?_slot (name := Str.ofString "__next__") hT F.slot_zip_next
    (wpAny_call_entry F.slot_zip_next hT F.entry_zip_next (zip3_end hh D hz hTI hTO h1 hl hx fun h' e hk he => ?_) (F.args_zip_next_1 _))))
  obtain ⟨o, ho, hc⟩ := he
  refine wpAny_bind (wpAny_isInstance (T := "StopIteration") (b := true) ⟨o, ho, hc⟩ isSubtype_stop ?_)
  exact wpAny_pure (hQ _ hk)

theorem typeCall_zip_3 (a b d : Value) : checkTypeCall "zip" ⟨[a, b, d], []⟩ = pure () := by kernel_rfl
theorem newCall_zip_3 (a b d : Value) : checkBuiltinCall "zip.__new__" ⟨[.type "zip", a, b, d], []⟩ = pure () := by kernel_rfl
end
end Mine
end
section
namespace Mine
open PySem PySem.W PySem.W.X PyProof.Rows PySem.Calls
open Sem (wp)

section
variable {prog : Program} {w : World} {A : Around} {E : Value → Shared → Prop} {s : Shared}
theorem args_init_4 (a b d e : Value) : argsOk "object.__init__" ⟨[a, b, d, e], []⟩ := by
  unfold argsOk; rw [signature?_of (id := "object.__init__") (n := ['_', '_', 't', 'i', 'n', 'i', '_', '_']) (o := ['t', 'c', 'e', 'j', 'b', 'o']) (by kernel_rfl) F.owner_object]; kernel_rfl
noncomputable abbrev z3H1 (h : Heap) (l : Addr) : Heap := h.push (liO l 0)
noncomputable abbrev z3H4 (h : Heap) (l1 l2 l3 : Addr) : Heap := (z3H1 (z3H1 (z3H1 h l1) l2) l3).push { cls := .type "tuple", data := .seq #[.ref h.objs.size, .ref (z3H1 h l1).objs.size, .ref (z3H1 (z3H1 h l1) l2).objs.size] }
noncomputable abbrev z3H5 (h : Heap) (l1 l2 l3 : Addr) : Heap := (z3H4 h l1 l2 l3).push { cls := .type "tuple", data := .seq #[.none, .none, .none] }
noncomputable abbrev z3H6 (h : Heap) (l1 l2 l3 : Addr) : Heap := (z3H5 h l1 l2 l3).push { cls := .type "zip", data := .fields #[.none, .bool false, .bool false, .ref (z3H1 (z3H1 (z3H1 h l1) l2) l3).objs.size, .ref (z3H4 h l1 l2 l3).objs.size] }
theorem meets_zip_new3 (l1 l2 l3 : Addr) (xs ys us : Array Value) :
    Meets (Builtin.«zip.__new__» ⟨[.type "zip", .ref l1, .ref l2, .ref l3], []⟩) (fun _ R s => s.heap.IsList l1 xs ∧ s.heap.IsList l2 ys ∧ s.heap.IsList l3 us ∧
      R (.ok (.ret (.ref (z3H5 s.heap l1 l2 l3).objs.size))) { s with heap := z3H6 s.heap l1 l2 l3 }) :=
  .of_wp fun prog w A R s h => by
    obtain ⟨hp, g, d, tk, os⟩ := s; obtain ⟨hl1, hl2, hl3, h⟩ := h
    have hsub := sub_zip
    have hL1 : Heap.IsList (Shared.heap ⟨hp, g, d, tk, os⟩) l1 xs := hl1
    have hL2 : Heap.IsList (Shared.heap ⟨hp.push { cls := .type "list_iterator", data := .fields #[.ref l1, .int 0 0] }, g, d, tk, os⟩) l2 ys := Heap.IsList.push hl2 _
    have hL3 : Heap.IsList (Shared.heap ⟨(hp.push { cls := .type "list_iterator", data := .fields #[.ref l1, .int 0 0] }).push { cls := .type "list_iterator", data := .fields #[.ref l2, .int 0 0] }, g, d, tk, os⟩) l3 us := Heap.IsList.push (Heap.IsList.push hl3 _) _
    wp_walk using wpAny_pyIter_list hL1, wpAny_pyIter_list hL2, wpAny_pyIter_list hL3
    exact ⟨_, rfl, h⟩
theorem call_zip_3 {l1 l2 l3 : Addr} {xs ys us : Array Value} {Q : Value → Shared → Prop} (hl1 : s.heap.IsList l1 xs) (hl2 : s.heap.IsList l2 ys) (hl3 : s.heap.IsList l3 us)
    (h : Q (.ref (z3H5 s.heap l1 l2 l3).objs.size) { s with heap := z3H6 s.heap l1 l2 l3 }) :
    wpAny (model prog w) A (call (.type "zip") [.ref l1, .ref l2, .ref l3]) Q E s := by
  refine callType_new F.called_zip (by decide) (typeCall_zip_3 _ _ _) (newCall_zip_3 _ _ _) (fun obj => args_init_4 obj _ _ _) F.entry_zip_new
    (meets_zip_new3 l1 l2 l3 xs ys us) ⟨hl1, hl2, hl3, ?_⟩
  have g6 : (z3H6 s.heap l1 l2 l3).get? (z3H5 s.heap l1 l2 l3).objs.size = some _ := Heap.get?_push_size _ rfl
  exact ⟨⟨_, g6, rfl⟩, h⟩
end
noncomputable abbrev zmu3 (z TI TO i1 i2 i3 : Addr) (o1 o2 o3 : Obj) (a b d : Value) : List (Addr × Obj) :=
  [(z, zipO TI TO .none), (TO, tupO [a, b, d]), (i1, o1), (i2, o2), (i3, o3), (TI, tupO [.ref i1, .ref i2, .ref i3])]

/-- zip(a, b, d) of three lists that stay -/
theorem e_zip3 {c : Cx} {A : Around} {s : Shared} {he : Heap} {L : Addr} {m : List (Str × Value)} {mu : List (Addr × Obj)} {E : Value → Shared → Prop} {D1 D2 D3 : Addr} {xs ys us : Array Value} {e1 e2 e3 : Nat} {Q : Value → Shared → Prop} (B : Bod c he L m mu s)
    (h1 : (D1, lstO xs e1) ∈ mu) (h2 : (D2, lstO ys e2) ∈ mu) (h3 : (D3, lstO us e3) ∈ mu)
    (h : ∀ z TI TO i1 i2 i3 s', Bod c he L m (zmu3 z TI TO i1 i2 i3 (liO D1 0) (liO D2 0) (liO D3 0) .none .none .none ++ mu) s' → Q (.ref z) s') : wpAny c.M A (call (.type "zip") [.ref D1, .ref D2, .ref D3]) Q E s := by
  refine call_zip_3 (xs := xs) (ys := ys) (us := us) ⟨_, B.own _ h1, rfl, _, rfl⟩ ⟨_, B.own _ h2, rfl, _, rfl⟩ ⟨_, B.own _ h3, rfl, _, rfl⟩ ?_
  have B1 := B.alloc (liO D1 0) s.toks rfl
  have B2 := B1.alloc (liO D2 0) s.toks rfl
  have B3 := B2.alloc (liO D3 0) s.toks rfl
  have B4 := B3.alloc (tupO [.ref s.heap.objs.size, .ref (z3H1 s.heap D1).objs.size, .ref (z3H1 (z3H1 s.heap D1) D2).objs.size]) s.toks rfl
  have B5 := B4.alloc (tupO [.none, .none, .none]) s.toks rfl
  have B6 := B5.alloc (zipO (z3H1 (z3H1 (z3H1 s.heap D1) D2) D3).objs.size (z3H4 s.heap D1 D2 D3).objs.size .none) s.toks rfl
  refine h _ (z3H1 (z3H1 (z3H1 s.heap D1) D2) D3).objs.size (z3H4 s.heap D1 D2 D3).objs.size s.heap.objs.size (z3H1 s.heap D1).objs.size (z3H1 (z3H1 s.heap D1) D2).objs.size _ (B6.perm ?_)
  refine List.Perm.cons _ (List.Perm.cons _ ?_)
  exact (List.reverse_perm [(s.heap.objs.size, liO D1 0), ((z3H1 s.heap D1).objs.size, liO D2 0), ((z3H1 (z3H1 s.heap D1) D2).objs.size, liO D3 0), ((z3H1 (z3H1 (z3H1 s.heap D1) D2) D3).objs.size, tupO [.ref s.heap.objs.size, .ref (z3H1 s.heap D1).objs.size, .ref (z3H1 (z3H1 s.heap D1) D2).objs.size])]).append_right mu
end Mine
end
section
namespace Mine
open PySem PySem.W PySem.W.X PyProof.Rows PySem.Calls
open Sem (wp)

inductive ZI6 (c : Cx) (he : Heap) (L z TI TO i1 i2 i3 D1 D2 D3 : Addr) (mu : List (Addr × Obj)) (N : Nat) (J : Nat → List (Str × Value) → Prop) (n : Nat) (s : Shared) : Prop
  | mk (j : Nat) (o1 o2 o3 : Obj) (a b d : Value) (m : List (Str × Value)) (h1 : n = N - j) (h2 : j ≤ N) (h3 : o1.cls = .type "list_iterator") (h4 : o1.data = .fields #[.ref D1, .int (j : Nat) 0]) (h5 : o2.cls = .type "list_iterator") (h6 : o2.data = .fields #[.ref D2, .int (j : Nat) 0]) (h7 : o3.cls = .type "list_iterator") (h8 : o3.data = .fields #[.ref D3, .int (j : Nat) 0]) (h9 : J j m) (h10 : Bod c he L m (zmu3 z TI TO i1 i2 i3 o1 o2 o3 a b d ++ mu) s) : ZI6 c he L z TI TO i1 i2 i3 D1 D2 D3 mu N J n s
/-- a loop over zip of three lists, the caller below -/
theorem zip3_loop {c : Cx} {A : Around} {he : Heap} {L : Addr} {env : Env} {body orelse : List Stmt} {R : Result → Shared → Prop} {n1 n2 n3 : Str} {p1 p2 p3 pt : Pos} {kt : Nat} {mu : List (Addr × Obj)} {D1 D2 D3 : Addr} {e1 e2 e3 : Nat}
    (J : Nat → List (Str × Value) → Prop) (xs ys us : Array Value) (N : Nat) (hNx : xs.size = N) (hNy : ys.size = N) (hNu : us.size = N) (hh : A.handled = none) (hL : env.locals = L) (hk : env.scope.kind = .function)
    (hl1 : env.kindOf n1 = some .local) (hl2 : env.kindOf n2 = some .local) (hl3 : env.kindOf n3 = some .local) (hz : he.objs.size ≤ L)
    (m1 : (D1, lstO xs e1) ∈ mu) (m2 : (D2, lstO ys e2) ∈ mu) (m3 : (D3, lstO us e3) ∈ mu)
    (turn : ∀ j m s x y u (zm : List (Addr × Obj)), j < N → xs[j]? = some x → ys[j]? = some y → us[j]? = some u → J j m → Bod c he L ((n3, u) :: (n2, y) :: (n1, x) :: m) (mu ++ zm) s →
      wpC c.M A (execs body env) (fun f s₃ => match f with
          | .next | .cont => ∃ m', J (j + 1) m' ∧ Bod c he L m' (mu ++ zm) s₃
          | .brk => R (.ok .next) s₃
          | .ret v => R (.ok (.ret v)) s₃) (notedBy c.M A env fun e s' => R (.error e) s') s)
    (done : ∀ m s, J N m → Bod c he L m mu s → wpAny c.M A (execs orelse env) (fun f s₃ => R (.ok f) s₃) (notedBy c.M A env fun e s' => R (.error e) s') s)
    {z TI TO i1 i2 i3 : Addr} {o1 o2 o3 : Obj} {a b d : Value} {m : List (Str × Value)} {s : Shared} (hoc1 : o1.cls = .type "list_iterator") (hod1 : o1.data = .fields #[.ref D1, .int (0 : Nat) 0])
    (hoc2 : o2.cls = .type "list_iterator") (hod2 : o2.data = .fields #[.ref D2, .int (0 : Nat) 0]) (hoc3 : o3.cls = .type "list_iterator") (hod3 : o3.data = .fields #[.ref D3, .int (0 : Nat) 0])
    (h0 : J 0 m) (B : Bod c he L m (zmu3 z TI TO i1 i2 i3 o1 o2 o3 a b d ++ mu) s) : codeC c.M A (.forLoop (.Tuple [.Name n1 p1, .Name n2 p2, .Name n3 p3] kt pt) (.ref z) body orelse env) R s := by
  have nd : Z3 z TI TO i1 i2 i3 D1 D2 D3 := by
    have hn := B.nod
    have q1 : D1 ∈ mu.map (·.1) := List.mem_map_of_mem m1
    have q2 : D2 ∈ mu.map (·.1) := List.mem_map_of_mem m2
    have q3 : D3 ∈ mu.map (·.1) := List.mem_map_of_mem m3
    exact ⟨nI hn 1 0 rfl rfl rfl, nI hn 2 0 rfl rfl rfl, nI hn 3 0 rfl rfl rfl, nI hn 4 0 rfl rfl rfl, nI hn 1 2 rfl rfl rfl, nI hn 1 3 rfl rfl rfl, nI hn 1 4 rfl rfl rfl, nI hn 2 3 rfl rfl rfl, nI hn 2 4 rfl rfl rfl, nI hn 3 4 rfl rfl rfl, nD hn 0 rfl q1, nD hn 0 rfl q2, nD hn 0 rfl q3, nD hn 1 rfl q2, nD hn 1 rfl q3, nD hn 2 rfl q2, nD hn 2 rfl q3, nD hn 3 rfl q3⟩
  refine codeC_forLoop (ZI6 c he L z TI TO i1 i2 i3 D1 D2 D3 mu N J) ?_ N
    ⟨0, o1, o2, o3, a, b, d, m, rfl, Nat.zero_le _, hoc1, hod1, hoc2, hod2, hoc3, hod3, h0, B⟩
  intro n s zz1
  refine hG fun zP zK => ?_
  obtain ⟨j, o1, o2, o3, a, b, d, m, rfl, hj, hc1, hd1, hc2, hd2, hc3, hd3, hJ, B⟩ := zz1
  refine zK ?_
  have hz' : IsZip s.heap z TI TO .none := B.own (z, zipO TI TO .none) (mI 0 rfl)
  have hTI : IsTrip s.heap TI (.ref i1) (.ref i2) (.ref i3) := B.own (TI, tupO [.ref i1, .ref i2, .ref i3]) (mI 5 rfl)
  have hTO : IsTrip s.heap TO a b d := B.own (TO, tupO [a, b, d]) (mI 1 rfl)
  have hi1 : s.heap.IsListIter i1 D1 j := ⟨o1, B.own (i1, o1) (mI 2 rfl), hc1, hd1⟩
  have hi2 : s.heap.IsListIter i2 D2 j := ⟨o2, B.own (i2, o2) (mI 3 rfl), hc2, hd2⟩
  have hi3 : s.heap.IsListIter i3 D3 j := ⟨o3, B.own (i3, o3) (mI 4 rfl), hc3, hd3⟩
  have hl1' : s.heap.IsList D1 xs := ⟨_, B.own (D1, lstO xs e1) (List.mem_append_right _ m1), rfl, _, rfl⟩
  have hl2' : s.heap.IsList D2 ys := ⟨_, B.own (D2, lstO ys e2) (List.mem_append_right _ m2), rfl, _, rfl⟩
  have hl3' : s.heap.IsList D3 us := ⟨_, B.own (D3, lstO us e3) (List.mem_append_right _ m3), rfl, _, rfl⟩
  by_cases hlt : j < N
  · have hx : xs[j]? = some xs[j] := Array.getElem?_eq_getElem (by omega)
    have hy : ys[j]? = some ys[j] := Array.getElem?_eq_getElem (by omega)
    have hu : us[j]? = some us[j] := Array.getElem?_eq_getElem (by omega)
    refine next3_item nd hz' hTI hTO hi1 hi2 hi3 hl1' hl2' hl3' hx hy hu ?_
    intro h1 z1 t1 j1 j2 j3 p1' sz1 k1
    dsimp only
    have nT : ∀ b o, s.heap.get? b = some o → b ≠ s.heap.objs.size := fun b o e => Nat.ne_of_lt (Heap.lt_size e)
    refine wpAny_letOwnedTupleGo_zip (s := { s with heap := h1 }) z1 ?_
    intro h2 z2 k2
    have p2 : IsTrip h2 s.heap.objs.size xs[j] ys[j] us[j] := k2.extBut _ _ (Ne.symm (nT _ _ hz')) p1'
    refine assign_Tuple_tuple hh ⟨_, p2, rfl, _, rfl⟩ rfl rfl ?_
    intro h3 x3
    have kk : ∀ b o, h2.get? b = some o → h3.get? b = some o := fun b o e => x3 b o (Nat.ne_of_lt (Heap.lt_size e)) e
    refine hG fun zP zK => ?_
    obtain ⟨p1o, ei1, ci1, di1⟩ := j1
    obtain ⟨p2o, ei2, ci2, di2⟩ := j2
    obtain ⟨p3o, ei3, ci3, di3⟩ := j3
    refine zK ?_
    have B1 := B.shift (mu := [(z, zipO TI TO .none), (TO, tupO [a, b, d]), (i1, o1), (i2, o2), (i3, o3)]) (rest := (TI, tupO [.ref i1, .ref i2, .ref i3]) :: mu) (mu' := [(z, zipO TI TO .none), (TO, tupO [xs[j], ys[j], us[j]]), (i1, p1o), (i2, p2o), (i3, p3o)]) (h' := h3) (t := s.toks) ?_ ?_ (List.Sublist.refl _) hz
    · refine assignInOrder_cons ?_
      refine wpAny_assign_Name ?_
      refine b_store B1 hL hk hl1 ?_
      intro s4 B4
      refine assignInOrder_cons ?_
      refine wpAny_assign_Name ?_
      refine b_store B4 hL hk hl2 ?_
      intro s5 B5
      refine assignInOrder_cons ?_
      refine wpAny_assign_Name ?_
      refine b_store B5 hL hk hl3 ?_
      intro s6 B6
      refine assignInOrder_nil ?_
      refine wpC_mono (turn j m s6 _ _ _ (zmu3 z TI TO i1 i2 i3 p1o p2o p3o xs[j] ys[j] us[j]) hlt hx hy hu hJ (B6.perm (List.perm_append_comm (l₁ := zmu3 z TI TO i1 i2 i3 p1o p2o p3o xs[j] ys[j] us[j])))) (fun f s₃ h₃ => ?_) fun _ _ e => e
      have fin : (∃ m', J (j + 1) m' ∧ Bod c he L m' (mu ++ zmu3 z TI TO i1 i2 i3 p1o p2o p3o xs[j] ys[j] us[j]) s₃) → ∃ n', n' < N - j ∧ ZI6 c he L z TI TO i1 i2 i3 D1 D2 D3 mu N J n' s₃ := by
        rintro ⟨m', a1, a2⟩
        exact ⟨N - (j + 1), by omega, j + 1, p1o, p2o, p3o, _, _, _, m', rfl, hlt, ci1, di1, ci2, di2, ci3, di3, a1, a2.perm List.perm_append_comm⟩
      cases f with
      | next => exact fin h₃
      | cont => exact fin h₃
      | brk => exact h₃
      | ret v => exact h₃
    · intro b' o' hb e
      simp only [List.map_cons, List.map_nil, List.mem_cons, List.not_mem_nil, or_false, not_or] at hb
      exact kk _ _ (k2.extBut _ _ hb.1 (k1 _ _ hb.1 hb.2.1 hb.2.2.1 hb.2.2.2.1 hb.2.2.2.2 e))
    · intro p hp
      simp only [List.mem_cons, List.not_mem_nil, or_false] at hp
      rcases hp with rfl | rfl | rfl | rfl | rfl
      · exact kk _ _ z2
      · exact kk _ _ (k2.extBut _ _ nd.TOz t1)
      · exact kk _ _ (k2.extBut _ _ nd.i1z ei1)
      · exact kk _ _ (k2.extBut _ _ nd.i2z ei2)
      · exact kk _ _ (k2.extBut _ _ nd.i3z ei3)
  · have ej : j = N := by omega
    subst ej
    refine next3_end hh nd hz' hTI hTO hi1 hl1' (Array.getElem?_eq_none (by omega)) ?_
    intro h1 k1
    have B1 := B.shift (mu := [(z, zipO TI TO .none), (TO, tupO [a, b, d]), (i1, o1)]) (rest := (i2, o2) :: (i3, o3) :: (TI, tupO [.ref i1, .ref i2, .ref i3]) :: mu) (mu' := []) (h' := h1) (t := s.toks) ?_ (fun _ h => nomatch h) (List.nil_sublist _) hz
    · exact done m _ hJ (B1.drop (.cons _ (.cons _ (.cons _ (.refl _)))))
    · intro b' o' hb e
      simp only [List.map_cons, List.map_nil, List.mem_cons, List.not_mem_nil, or_false, not_or] at hb
      exact k1 _ _ hb.1 hb.2.1 hb.2.2 e
end Mine
end
section
namespace Mine
open PySem PySem.W PySem.W.X PyProof.Rows PySem.Calls
open Sem (wp)

/-- a and b, both of them values of comparisons -/
theorem e_and {M : Model} {A : Around} {E : Value → Shared → Prop} {s : Shared} {env : Env} {a b : Expr} {pos : Pos} {Q : Value → Shared → Prop}
    (h : wpAny M A (eval a env) (fun v s₁ => ∃ x, v = .bool x ∧ (x = false → Q (.bool false) s₁) ∧ (x = true → wpAny M A (eval b env) Q E s₁)) E s) : wpAny M A (eval (.BoolOp .And [a, b] pos) env) Q E s := by
  rw [arm_eval_BoolOp]
  show wpAny M A (do
    let v ← eval a env
    standAt pos
    let t ← holding [v] (truthy v)
    match BoolOp.And, t with
    | .And, false | .Or, true => pure v
    | _, _ => eval b env) Q E s
  refine wpAny_bind (wpAny_mono h (fun v s₁ h₁ => ?_) fun _ _ e => e)
  refine hG fun zP zK => ?_
  obtain ⟨x, rfl, h1, h2⟩ := h₁
  refine zK ?_
  refine wpAny_bind (wpAny_standAt (wpAny_bind (wpAny_holding ?_)))
  cases x
  · exact fun _ _ _ => wpAny_pure (h1 rfl)
  · exact fun _ _ _ => h2 rfl

section
variable {c : Cx} {k : Nat} {A : Around} {s₀ s : Shared} {L : Addr} {m : List (Str × Value)} {mu : List (Addr × Obj)} {E : Value → Shared → Prop}
theorem law8 {Q : Flow → Shared → Prop} {DP DN DB : Addr} {ysP ysN ysB : Array Value} {epP epN epB : Nat} {P N : List (List Str)} {sh : Int} {t : Tok} (R' : Room (k + 1) A) (hfr : A.frames = some [envF c.w.params 268 L]) (hzL : (Sees s₀).objs.size ≤ L) (B : Bod c (Sees s₀) L m mu s)
    (hm : LawM m DP DN DB sh t) (hDP : (DP, lstO ysP epP) ∈ mu) (hP : FieldsIn mu ysP P) (hDN : (DN, lstO ysN epN) ∈ mu) (hN : FieldsIn mu ysN N) (hDB : (DB, lstO ysB epB) ∈ mu) (hB : FieldsIn mu ysB (P.map (·.map blankOf)))
    (hPN : P.length = N.length) (hNz : ∀ fs ∈ N, fs.length ≤ 100)
    (hal : ∀ (j : Nat) (fs due : List Str), P[j]? = some fs → N[j]? = some due → ∃ sys rel ver, fs = [sys, rel, ver] ∧ AOk (fs.map blankOf) (if sys = t_SunOS ∧ rel = t_unknown then fs.map blankOf else due.map blankOf))
    (h : ∀ m' s', Bod c (Sees s₀) L m' mu s' → Q (.ret (.bool true)) s') :
    wpC c.M A (execs ((bodyF c.w.params 268).drop 7) (envF c.w.params 268 L)) Q E s := by
  refine wpC_execs_cons ?_
  refine wpC_For ?_
  refine c_name ?_
  refine b_glob B (gv_zip _) (by kernel_rfl) (by kernel_rfl) (by kernel_rfl) (by kernel_rfl) (by kernel_rfl) ?_
  refine cw_type ?_
  refine a_cons ?_
  refine b_name B (envF_locals _ _ _) (hm.plain) (by kernel_rfl) (by kernel_rfl) (by kernel_rfl) ?_
  refine a_cons ?_
  refine b_name B (envF_locals _ _ _) (hm.bare) (by kernel_rfl) (by kernel_rfl) (by kernel_rfl) ?_
  refine a_cons ?_
  refine b_name B (envF_locals _ _ _) (hm.named) (by kernel_rfl) (by kernel_rfl) (by kernel_rfl) ?_
  refine a_nil ?_
  refine e_zip3 B hDP hDB hDN ?_
  intro z TI TO i1 i2 i3 s3 B3
  refine wpAny_pyIter_zip (TI := TI) (TO := TO) (f0 := .none) (B3.own (z, zipO TI TO .none) (mI 0 rfl)) ?_
  refine zip3_loop (fun j m' => LawM m' DP DN DB sh t) ysP ysB ysN P.length hP.1 (by rw [hB.1, List.length_map]) (by rw [hN.1, hPN]) R'.handled (envF_locals _ _ _) (by kernel_rfl) (by kernel_rfl) (by kernel_rfl) (by kernel_rfl) hzL hDP hDB hDN ?_ ?_ rfl rfl rfl rfl rfl rfl hm B3
  · intro j m' s4 x y u zm hj hxj hyj huj hm' B4
    refine hG fun zP zK => ?_
    obtain ⟨fs, hfs⟩ : ∃ fs, P[j]? = some fs := ⟨_, List.getElem?_eq_getElem hj⟩
    refine zK ?_
    obtain ⟨due, hdue⟩ : ∃ due, N[j]? = some due := ⟨_, List.getElem?_eq_getElem (by rw [← hPN]; exact hj)⟩
    refine hG fun zP zK => ?_
    obtain ⟨a, its, ep, q1, q2, q3⟩ := hP.2 j fs hfs
    refine zK ?_
    obtain ⟨b, jts, ep2, r1, r2, r3⟩ := hB.2 j (fs.map blankOf) (by rw [List.getElem?_map, hfs]; rfl)
    refine hG fun zP zK => ?_
    obtain ⟨d, kts, ep3, w1, w2, w3⟩ := hN.2 j due hdue
    refine zK ?_
    rw [hxj] at q1
    cases q1
    rw [hyj] at r1
    cases r1
    rw [huj] at w1
    cases w1
    refine hG fun zP zK => ?_
    obtain ⟨sys, rel, ver, rfl, hok⟩ := hal j fs due hfs hdue
    refine zK ?_
    have inl : ∀ {p}, p ∈ mu → p ∈ mu ++ zm := fun hp => List.mem_append_left _ hp
    refine hG fun zP zK => ?_
    obtain ⟨t1, t2, t3, e3⟩ := strs3 q3
    refine zK ?_
    have hi0 : its[0]? = some (.str sys t1) := by rw [← Array.getElem?_toList, e3]; rfl
    have hi1 : its[1]? = some (.str rel t2) := by rw [← Array.getElem?_toList, e3]; rfl
    refine wpC_execs_cons ?_
    refine wpC_mono (Q := fun f s' => f = .next ∧ Bod c (Sees s₀) L ((n_stays, .bool (decide (sys = t_SunOS ∧ rel = t_unknown))) :: (n_due, .ref d) :: (n_later, .ref b) :: (n_fields, .ref a) :: m') (mu ++ zm) s') (E := fun _ _ => False) ?_ ?_ (fun _ _ x => x.elim)
    · refine wpC_of ?_
      refine wpAny_Assign_Name ?_
      refine e_and ?_
      refine wpAny_Compare1 ?_
      refine e_sub "list" "list.__getitem__" lk_lst ?_
      refine b_name B4 (envF_locals _ _ _) (look_there (by decide) (look_there (by decide) look_here)) (by kernel_rfl) (by kernel_rfl) (by kernel_rfl) ?_
      refine b_int B4 ?_
      intro t5 s5 B5
      have g5 := B5.own (a, lstO its ep) (inl q2)
      refine ⟨⟨_, g5, rfl⟩, ?_⟩
      refine wpAny_getItem_list (x := .str sys t1) ⟨_, g5, rfl, _, rfl⟩ (by decide) (by decide) hi0 ?_
      refine b_str B5 ?_
      intro t6 s6 B6
      refine b_eq_str ?_
      refine ⟨_, rfl, ?_, ?_⟩
      · intro hno
        have hno : ¬ sys = t_SunOS := of_decide_eq_false hno
        refine b_store B6 (envF_locals _ _ _) (by kernel_rfl) (by kernel_rfl) ?_
        intro s7 B7
        refine ⟨rfl, ?_⟩
        rw [decide_eq_false (fun q => hno q.1)]
        exact B7
      · intro hyes
        have hyes : sys = t_SunOS := of_decide_eq_true hyes
        refine wpAny_Compare1 ?_
        refine e_sub "list" "list.__getitem__" lk_lst ?_
        refine b_name B6 (envF_locals _ _ _) (look_there (by decide) (look_there (by decide) look_here)) (by kernel_rfl) (by kernel_rfl) (by kernel_rfl) ?_
        refine b_int B6 ?_
        intro t7 s7 B7
        have g7 := B7.own (a, lstO its ep) (inl q2)
        refine ⟨⟨_, g7, rfl⟩, ?_⟩
        refine wpAny_getItem_list (x := .str rel t2) ⟨_, g7, rfl, _, rfl⟩ (by decide) (by decide) hi1 ?_
        refine b_str B7 ?_
        intro t8 s8 B8
        refine b_eq_str ?_
        refine b_store B8 (envF_locals _ _ _) (by kernel_rfl) (by kernel_rfl) ?_
        intro s9 B9
        refine ⟨rfl, ?_⟩
        have : decide (sys = t_SunOS ∧ rel = t_unknown) = decide (rel = t_unknown) := by simp [hyes]
        rw [this]
        exact B9
    · rintro f s5 ⟨rfl, B5⟩
      dsimp only [seqK, seqC]
      have hm5 : LawM ((n_stays, .bool (decide (sys = t_SunOS ∧ rel = t_unknown))) :: (n_due, .ref d) :: (n_later, .ref b) :: (n_fields, .ref a) :: m') DP DN DB sh t :=
        (((hm'.more (by decide) (by decide) (by decide) (by decide)).more (by decide) (by decide) (by decide) (by decide)).more (by decide) (by decide) (by decide) (by decide)).more (by decide) (by decide) (by decide) (by decide)
      refine wpC_execs_cons ?_
      refine wpC_If ?_
      refine wpC_isTrue_Compare1 ?_
      refine e_sysalias (x := n_later) R' hfr hzL B5 (look_there (by decide) (look_there (by decide) look_here)) (by kernel_rfl) (by decide) (B5.own (b, lstO jts ep2) (inl r2)) r3 hok ?_
      intro T vs s6 hvs B6
      refine c_name ?_
      refine b_glob B6 (gv_tuple _) (by kernel_rfl) (by kernel_rfl) (by kernel_rfl) (by kernel_rfl) (by kernel_rfl) ?_
      refine cw_type ?_
      refine a_cons ?_
      refine wpAny_mono (Q := fun v s' => ∃ D dts epD nw, v = .ref D ∧ (D, lstO dts epD) ∈ nw ++ (mu ++ zm) ∧ StrsAre dts.toList (if sys = t_SunOS ∧ rel = t_unknown then [sys, rel, ver].map blankOf else due.map blankOf) ∧
        Bod c (Sees s₀) L ((n_stays, .bool (decide (sys = t_SunOS ∧ rel = t_unknown))) :: (n_due, .ref d) :: (n_later, .ref b) :: (n_fields, .ref a) :: m') (nw ++ ((T, tupO vs) :: (mu ++ zm))) s') ?_ ?_ (fun _ _ x => x)
      · refine wpAny_IfExp ?_
        refine wpAny_isTrue_value ?_
        refine b_name B6 (envF_locals _ _ _) (look_here) (by kernel_rfl) (by kernel_rfl) (by kernel_rfl) ?_
        refine b_bool ?_
        by_cases hst : sys = t_SunOS ∧ rel = t_unknown
        · rw [decide_eq_true hst] at B6 ⊢
          refine (if_pos rfl).mpr ?_
          refine b_name B6 (envF_locals _ _ _) (look_there (by decide) (look_there (by decide) look_here)) (by kernel_rfl) (by kernel_rfl) (by kernel_rfl) ?_
          rw [if_pos hst]
          exact ⟨b, jts, ep2, [], rfl, inl r2, r3, B6⟩
        · rw [decide_eq_false hst] at B6 ⊢
          refine (if_neg Bool.false_ne_true).mpr ?_
          rw [if_neg hst]
          refine c_name ?_
          refine b_glob B6 (gv_law_bare_u _) (by kernel_rfl) (by kernel_rfl) (by kernel_rfl) (by kernel_rfl) (by kernel_rfl) ?_
          refine cw_def (fo_251 _) (fd_251 _) ?_
          refine a_cons ?_
          refine b_name B6 (envF_locals _ _ _) (look_there (by decide) look_here) (by kernel_rfl) (by kernel_rfl) (by kernel_rfl) ?_
          refine a_nil ?_
          refine ⟨B6.inv, ?_⟩
          have hkz : kts.size ≤ 100 := by
            have h1 := strsAre_length w3
            rw [Array.length_toList] at h1
            rw [h1]; exact hNz due (List.mem_of_getElem? hdue)
          refine bare_spec B6.inv R' (B6.own (d, lstO kts ep3) (List.mem_cons_of_mem _ (inl w2))) (B6.lowM (d, lstO kts ep3) (List.mem_cons_of_mem _ (inl w2))) w3 (by omega) ?_
          intro D ys epD s7 hys M7
          have B7 := B6.turned (mu := []) M7
          exact ⟨D, ys, epD, [(D, lstO ys epD)], rfl, List.mem_cons_self .., hys, B7⟩
      intro v s7 zz1
      refine hG fun zP zK => ?_
      obtain ⟨D, dts, epD, nw, rfl, hD, hdts, B7⟩ := zz1
      refine zK ?_
      refine a_nil ?_
      have hdz := strsAre_length hdts
      rw [Array.length_toList] at hdz
      have hdl : (if sys = t_SunOS ∧ rel = t_unknown then [sys, rel, ver].map blankOf else due.map blankOf).length ≤ 100 := by
        split
        · simp
        · rw [List.length_map]; exact hNz due (List.mem_of_getElem? hdue)
      have hD' : (D, lstO dts epD) ∈ nw ++ ((T, tupO vs) :: (mu ++ zm)) := by
        rcases List.mem_append.mp hD with h1 | h1
        · exact List.mem_append_left _ h1
        · exact List.mem_append_right _ (List.mem_cons_of_mem _ h1)
      refine call_tuple_list (items := dts) ⟨_, B7.own (D, lstO dts epD) hD', rfl, _, rfl⟩ ?_ (by rw [hdz, sizeLine_val]; omega)
      intro h8 k8
      have B8 := B7.kept (h' := h8) (t := s7.toks) k8 hzL
      have B9 := B8.alloc (tupO dts.toList) s7.toks rfl
      have e9 : (tupO dts.toList) = { cls := .type "tuple", data := .seq dts } := by simp [tupO]
      rw [e9] at B9
      have hso : ∀ z ∈ (if sys = t_SunOS ∧ rel = t_unknown then [sys, rel, ver].map blankOf else due.map blankOf), PyData.strOk z = true := hok.elim fun _ ⟨_, _, _, _, _, _, _, q⟩ => q
      refine ne_tups (v1 := vs) (v2 := dts.toList) (B9.own (T, tupO vs) (by simp)) ?_ hvs hdts hso R'.u64 ?_
      · rw [e9]; exact B9.own (h8.objs.size, _) (List.mem_cons_self ..)
      refine b_bool ?_
      refine (if_neg Bool.false_ne_true).mpr ?_
      refine wpC_of ?_
      refine wpAny_execs_nil ?_
      refine wpC_of ?_
      refine wpAny_execs_nil ?_
      refine ⟨_, hm5, B9.drop ?_⟩
      exact .cons _ (List.Sublist.trans (.cons _ (.refl _)) (List.sublist_append_right nw _))
  · intro m' s4 hm' B4
    refine wpAny_execs_nil ?_
    refine wpC_of ?_
    refine sK ?_
    refine wpAny_Return_some ?_
    refine wpAny_Constant_bool ?_
    exact h m' s4 B4
end
end Mine
end
section
namespace Mine
open PySem PySem.W PySem.W.X PyProof.Rows PySem.Calls
open Sem (wp)

/-- THE PLAIN LAW: all that the walk of law asks of the machines -/
structure LawOk (ms : List Mach) : Prop where
  len : ms.length ≤ 100
  mach : ∀ x ∈ ms, MachOk x
  fP : ∀ fs ∈ ms.map plainF, fs.length ≤ 100
  fN : ∀ fs ∈ ms.map aliasF, fs.length ≤ 100
  okP : ∀ fs ∈ ms.map plainF, ∀ y ∈ fs, PyData.strOk (blankOf y) = true
  okN : ∀ fs ∈ ms.map aliasF, ∀ y ∈ fs, PyData.strOk (blankOf y) = true
  al : ∀ (j : Nat) (fs due : List Str), (ms.map plainF ++ ms.map aliasF)[j]? = some fs → (ms.map aliasF ++ ms.map aliasF)[j]? = some due → AOk fs due
  tP : ∀ W : Int, 0 ≤ W → W < 1000 → TellOk W (ms.map plainF)
  tN : ∀ W : Int, 0 ≤ W → W < 1000 → TellOk W (ms.map aliasF)
  la : ∀ (j : Nat) (fs due : List Str), (ms.map plainF)[j]? = some fs → (ms.map aliasF)[j]? = some due → ∃ sys rel ver, fs = [sys, rel, ver] ∧ AOk (fs.map blankOf) (if sys = t_SunOS ∧ rel = t_unknown then fs.map blankOf else due.map blankOf)

theorem law_spec {c : Cx} {k : Nat} {A : Around} {s : Shared} {o : Obj} {items : Array Value} {n : Nat} {ns : List Int} {Q : Value → Shared → Prop} {E : Value → Shared → Prop} (I : SInv c s) (R : Room (k + 13) A) (hfr : A.frames = some [])
    (hsc : s.heap.get? 269 = some o) (hoc : o.cls = .type "list") (hod : o.data = .seq items n) (hns : ∀ (j : Nat) (x : Int), ns[j]? = some x → ∃ t, items[j]? = some (.int x t)) (hnl : items.size = ns.length) (hn63 : ns.length ≤ 63)
    (H : LawOk (machsOf ns)) (h : ∀ s', Ev c s s' → Q (.bool true) s') : wpC c.M A (call (.ref 268) [.ref 269]) Q E s := by
  refine enterC [(n_script, .ref 269)] [] I R (by walk_at "fn") ?_
  intro L s1 eL B kp R'
  change Bod c (Sees s) _ _ _ _ at B
  have hzL : (Sees s).objs.size ≤ L := by rw [hideAll_size, eL]; exact Nat.le_refl _
  have hfr' : (A.deeper (envF c.w.params 268 L)).frames = some [envF c.w.params 268 L] := by show A.frames.map _ = _; rw [hfr]; rfl
  have hsc' : (Sees s).get? 269 = some o := hideAll_get _ hsc (by decide)
  refine law1 (k := k + 11) R' B hzL hsc' hoc hod hns hnl hn63 ?_
  intro DM ysM epM mu1 sh t s2 hM hDM B2
  refine law2 (k := k + 10) R' hzL B2 look_here hDM hM H.len H.mach ?_
  intro DP ysP epP nest3 s3 hP B3
  refine law3 (k := k + 10) (epM := epM) (mu := (DP, lstO ysP epP) :: (nest3 ++ mu1)) R' hzL B3 (look_there (by decide) look_here) (List.mem_cons_of_mem _ (List.mem_append_right _ hDM)) (hM.mono fun p hp => by simp [hp]) H.len H.mach ?_
  intro DN ysN epN nest4 s4 hN B4
  have lp : (machsOf ns).length = ((machsOf ns).map plainF).length := by rw [List.length_map]
  refine law4 (k := k + 10) (epP := epP) R' hzL B4 (look_there (by decide) look_here) (List.mem_cons_of_mem _ (List.mem_append_right _ (List.mem_cons_self ..))) (hP.mono fun p hp => by simp [hp]) (by rw [← lp]; exact H.len) H.fP ?_
  intro DB ysB epB nest5 s5 hB B5
  have inP : ∀ p ∈ nest3, p ∈ (DB, lstO ysB epB) :: (nest5 ++ (DN, lstO ysN epN) :: (nest4 ++ (DP, lstO ysP epP) :: (nest3 ++ mu1))) := fun p hp => by simp [hp]
  have inN : ∀ p ∈ nest4, p ∈ (DB, lstO ysB epB) :: (nest5 ++ (DN, lstO ysN epN) :: (nest4 ++ (DP, lstO ysP epP) :: (nest3 ++ mu1))) := fun p hp => by simp [hp]
  have inB : ∀ p ∈ nest5, p ∈ (DB, lstO ysB epB) :: (nest5 ++ (DN, lstO ysN epN) :: (nest4 ++ (DP, lstO ysP epP) :: (nest3 ++ mu1))) := fun p hp => by simp [hp]
  have iDP : (DP, lstO ysP epP) ∈ (DB, lstO ysB epB) :: (nest5 ++ (DN, lstO ysN epN) :: (nest4 ++ (DP, lstO ysP epP) :: (nest3 ++ mu1))) := by simp
  have iDN : (DN, lstO ysN epN) ∈ (DB, lstO ysB epB) :: (nest5 ++ (DN, lstO ysN epN) :: (nest4 ++ (DP, lstO ysP epP) :: (nest3 ++ mu1))) := by simp
  have iDB : (DB, lstO ysB epB) ∈ (DB, lstO ysB epB) :: (nest5 ++ (DN, lstO ysN epN) :: (nest4 ++ (DP, lstO ysP epP) :: (nest3 ++ mu1))) := by simp
  have hP' := hP.mono inP
  have hN' := hN.mono inN
  have hB' := hB.mono inB
  generalize (DB, lstO ysB epB) :: (nest5 ++ (DN, lstO ysN epN) :: (nest4 ++ (DP, lstO ysP epP) :: (nest3 ++ mu1))) = mu at *
  have lpl : ((machsOf ns).map plainF).length ≤ 100 := by rw [← lp]; exact H.len
  have lpn : ((machsOf ns).map plainF).length = ((machsOf ns).map aliasF).length := by rw [List.length_map, List.length_map]
  have M0 : LawM [(n_bare, .ref DB), (n_named, .ref DN), (n_plain, .ref DP), (n_machines, .ref DM), (n_shift, .int sh t), (n_script, .ref 269)] DP DN DB sh t :=
    ⟨look_there (by decide) (look_there (by decide) look_here), look_there (by decide) look_here, look_here, look_there (by decide) (look_there (by decide) (look_there (by decide) (look_there (by decide) look_here)))⟩
  refine law5 (k := k + 10) R' hzL B5 M0.plain iDP hP' lpl H.fP M0.bare iDB hB' H.okP ?_
  intro s6 B6
  refine law6 (k := k + 11) R' hfr' hzL B6 M0 iDP hP' iDN hN' lpl lpn H.fN H.al ?_
  intro m7 s7 M7 B7
  refine law7 (k := k) R' hzL B7 M7 iDP hP' iDN hN' iDB hB' (by rw [← lpn]; exact lpl) H.fN H.okP H.okN H.tP H.tN ?_
  intro m8 s8 M8 B8
  refine law8 (k := k + 11) R' hfr' hzL B8 M8 iDP hP' iDN hN' iDB hB' lpn H.fN H.la ?_
  intro m9 s9 B9
  exact h s9 (B9.ev rfl)
end Mine
end
section
namespace Mine
open PySem PySem.W PySem.W.X PySem.W.ZRun PyProof.Rows PySem.Calls
theorem mem_lookup {l : Frag} {a : Addr} {o : Obj} (e : l.lookup a = some o) : (a, o) ∈ l := by
  induction l with
  | nil => cases e
  | cons p r ih =>
    obtain ⟨b, x⟩ := p
    rw [List.lookup_cons] at e
    split at e
    · rename_i q
      have : a = b := by simpa using q
      cases e; subst this; exact .head _
    · exact .tail _ (ih e)
theorem lookup_filter (p : Addr → Bool) : ∀ (l : Frag) {b : Addr} {o : Obj}, (l.filter fun q => p q.1).lookup b = some o → l.lookup b = some o
  | [], b, o, e => by cases e
  | (a, x) :: r, b, o, e => by
    rw [List.filter_cons] at e
    rw [List.lookup_cons]
    split at e
    · rw [List.lookup_cons] at e
      cases hq : (b == a)
      · rw [hq] at e; exact lookup_filter p r e
      · rw [hq] at e; exact e
    · rename_i hp
      have e' := lookup_filter p r e
      cases hq : (b == a)
      · exact e'
      · have hba : b = a := by simpa using hq
        exact absurd (filter_key p r e) (by rw [hba]; exact hp)
where
  filter_key (p : Addr → Bool) : ∀ (l : Frag) {b : Addr} {o : Obj}, (l.filter fun q => p q.1).lookup b = some o → p b = true := fun l b o e => by
    have hm := mem_lookup e
    exact (List.mem_filter.mp hm).2

noncomputable def fldOf (o : Obj) : Array Value := match o.data with | .fields vs => vs | _ => #[]
noncomputable def strV (v : Value) : Str := match v with | .str x _ => x | _ => default
noncomputable def tokV (v : Value) : Tok := match v with | .str _ t => t | .int _ t => t | _ => default
noncomputable def intV (v : Value) : Int := match v with | .int x _ => x | _ => default
noncomputable def boolV (v : Value) : Bool := match v with | .bool x => x | _ => default
theorem isCode_of {h : Heap} {c P : Addr} {o op : Obj} (g : h.get? c = some o) (gP : h.get? P = some op) (h1 : o.data = .fields (fldOf o)) (h11 : (fldOf o).getD 11 .none = .ref P) (h18 : (fldOf o).getD 18 .none = .str (strV ((fldOf o).getD 18 .none)) (tokV ((fldOf o).getD 18 .none)))
    (h7 : (fldOf o).getD 7 .none = .int (intV ((fldOf o).getD 7 .none)) (tokV ((fldOf o).getD 7 .none))) (h9 : (fldOf o).getD 9 .none = .bool (boolV ((fldOf o).getD 9 .none))) (h10 : (fldOf o).getD 10 .none = .int (intV ((fldOf o).getD 10 .none)) (tokV ((fldOf o).getD 10 .none)))
    (hp : op.data = .fields #[]) (hne : c ≠ P) : h.IsCode c P #[] :=
  ⟨o, fldOf o, _, _, _, _, _, _, _, op, g, h1, h11, h18, h7, h9, h10, gP, hp, trivial, hne⟩
theorem ns_law {h : Heap} {mg : Str → Option Value} {P : Params} {a : Addr} (hn : h.Ns mainGlobals mg) (g3 : h.get? 3 = some (oF P 3)) (e : mg (Str.ofString "law") = some (.ref a)) : a = 268 := by
  rw [hn.eq_nsMap] at e
  have : h.nsMap mainGlobals (Str.ofString "law") = some (.ref 268) := by
    unfold Heap.nsMap
    rw [show h.get? mainGlobals = some (oF P 3) from g3]
    kernel_rfl
  rw [this] at e
  cases e; rfl

theorem ints_len : ∀ {vs : List Value} {ns : List Int}, IntsAre vs ns → vs.length = ns.length
  | _, _, .nil => rfl
  | _, _, .cons _ _ r => by simp [ints_len r]
theorem ints_get : ∀ {vs : List Value} {ns : List Int}, IntsAre vs ns → ∀ (j : Nat) (x : Int), ns[j]? = some x → ∃ t, vs[j]? = some (.int x t)
  | _, _, .nil, j, x, h => by simp at h
  | _, _, .cons a t r, 0, x, h => by simp at h; subst h; exact ⟨t, rfl⟩
  | _, _, .cons a t r, j + 1, x, h => by simpa using ints_get r j x (by simpa using h)
theorem joined (H : ∀ ns : List Int, LawOk (machsOf ns)) : PySem.Challenge.rw_ny0238_01.Holds := by
  refine Hd.hd ?_
  intro w s₀ s₁ mg mb G y a o pm cd doc dV kV hao hdata hcd hdf hmg hgens args vals as L pre lay rd wl hsm
  wrow_args pre lay rd wl hsm
  rename_i ns hs hlay0 hL1 hr1 hl2 as4 as3 A0 vs as0 hL ra w1 r0 hI hr hc1 hc2
  obtain ⟨zA, zI, zn, zt⟩ := z_facts (K := Hd.hd.heap_271) (fun P => by kernel_rfl) y
  obtain ⟨hA, hsz1⟩ := script_at L
  rw [zn] at hA hsz1
  subst hA
  have gobj := script_obj L hL
  have keeps := L.keeps
  have g : ∀ b o, (Hd.hd.heap_271 w.params).lookup b = some o → s₁.heap.get? b = some o := fun b o e => keeps _ _ (zI b o e)
  have a268 : a = 268 := by
    refine ns_law (P := w.params) G.T.g (g 3 _ (by kernel_rfl)) hmg
  subst a268
  have t47 : s₁.heap.TableAt 51 47 #[] := table_at (vs := fldOf (oF w.params 51)) (g 51 (oF w.params 51) (by kernel_rfl)) (by kernel_rfl) (by kernel_rfl) (g 47 (oF w.params 47) (by kernel_rfl)) (by kernel_rfl)
  have t183 : s₁.heap.TableAt 187 183 #[] := table_at (vs := fldOf (oF w.params 187)) (g 187 (oF w.params 187) (by kernel_rfl)) (by kernel_rfl) (by kernel_rfl) (g 183 (oF w.params 183) (by kernel_rfl)) (by kernel_rfl)
  have t190 : s₁.heap.TableAt 194 190 #[] := table_at (vs := fldOf (oF w.params 194)) (g 194 (oF w.params 194) (by kernel_rfl)) (by kernel_rfl) (by kernel_rfl) (g 190 (oF w.params 190) (by kernel_rfl)) (by kernel_rfl)
  have c47 : s₁.heap.IsCode 51 47 #[] := isCode_of (g 51 (oF w.params 51) (by kernel_rfl)) (g 47 (oF w.params 47) (by kernel_rfl)) (by kernel_rfl) (by kernel_rfl) (by kernel_rfl) (by kernel_rfl) (by kernel_rfl) (by kernel_rfl) (by kernel_rfl) (by decide)
  have c183 : s₁.heap.IsCode 187 183 #[] := isCode_of (g 187 (oF w.params 187) (by kernel_rfl)) (g 183 (oF w.params 183) (by kernel_rfl)) (by kernel_rfl) (by kernel_rfl) (by kernel_rfl) (by kernel_rfl) (by kernel_rfl) (by kernel_rfl) (by kernel_rfl) (by decide)
  have c190 : s₁.heap.IsCode 194 190 #[] := isCode_of (g 194 (oF w.params 194) (by kernel_rfl)) (g 190 (oF w.params 190) (by kernel_rfl)) (by kernel_rfl) (by kernel_rfl) (by kernel_rfl) (by kernel_rfl) (by kernel_rfl) (by kernel_rfl) (by kernel_rfl) (by decide)
  let c : Cx := ⟨w, s₁.heap, s₁.os, hsz1, t47, t183, t190⟩
  have I : SInv c s₁ := ⟨fun b o e => g b o (lookup_filter (fun a => !(a == 47 || a == 183 || a == 190)) _ e), .of_keep (fun _ _ e => e), Nat.le_of_eq hsz1.symm, ⟨#[], c47, t47⟩, ⟨#[], c183, t183⟩, ⟨#[], c190, t190⟩, .of_eq hgens, rfl⟩
  have R : Room (0 + 13) callerA := ⟨rfl, by decide, by decide, ⟨[], rfl⟩, rfl⟩
  refine law_spec (c := c) (ns := ns) I R rfl gobj rfl rfl ?_ ?_ ?_ (H ns) ?_
  · intro j x hj
    obtain ⟨t, e⟩ := ints_get hI j x hj
    exact ⟨t, by rw [List.getElem?_toArray]; exact e⟩
  · rw [List.size_toArray]; exact ints_len hI
  · omega
  · intro s' ev
    refine ⟨.inl ⟨_, .bool true, [], rfl, ?_, .bool _, ?_, ?_⟩, ev.inv.old, ev.inv.os, ev.inv.bare⟩
    · intro cls
      first | rfl | kernel_rfl | decide
    · first | rfl | kernel_rfl | decide
    · exact fun _ => ⟨List.nodup_nil, fun _ h => (nomatch h)⟩
end Mine
end
section
namespace Mine
open PySem PySem.W PySem.W.X PyProof.Rows PySem.Calls

theorem tot_append (a b : List (Str × Str)) : tot (a ++ b) = tot a + tot b := by
  unfold tot; rw [List.map_append, List.sum_append]
theorem tot_nonneg (a : List (Str × Str)) : 0 ≤ tot a := by
  induction a with
  | nil => exact Int.le_refl _
  | cons p r ih => unfold tot at ih ⊢; simp only [List.map_cons, List.sum_cons]; lia

/-- the parts laid so far: whole entries, the last of them with its semicolon -/
noncomputable def Whole (cur : List (Str × Str)) : Prop := ∃ a q, cur = a ++ [q] ∧ endsSemi q.2 = true

theorem splitFrom_at {cur more : List (Str × Str)} (h : Whole cur) : splitFrom (cur ++ more) cur.length = some cur.length := by
  obtain ⟨a, q, rfl, hq⟩ := h
  have : (a ++ [q]).length = a.length + 1 := by simp
  rw [this]
  refine splitFrom_yes (q := q) ?_ hq
  simp
theorem splitFrom_past {cur more : List (Str × Str)} (h : Whole cur) : ∀ k, k ≤ more.length → (∀ j q, j < k → more[j]? = some q → endsSemi q.2 = false) → splitFrom (cur ++ more) (cur.length + k) = some cur.length
  | 0, _, _ => splitFrom_at h
  | k + 1, hk, hno => by
    have hlt : k < more.length := hk
    have e : (cur ++ more)[cur.length + k]? = some more[k] := by
      rw [List.getElem?_append_right (Nat.le_add_right _ _), Nat.add_sub_cancel_left]
      exact List.getElem?_eq_getElem hlt
    rw [← Nat.add_assoc, splitFrom_no e (hno k _ (Nat.lt_succ_self k) (List.getElem?_eq_getElem hlt))]
    exact splitFrom_past h k (Nat.le_of_succ_le hk) fun j q hj => hno j q (Nat.lt_succ_of_lt hj)
theorem splitFrom_none {ps : List (Str × Str)} : ∀ k, k ≤ ps.length → (∀ j q, j < k → ps[j]? = some q → endsSemi q.2 = false) → splitFrom ps k = none
  | 0, _, _ => rfl
  | k + 1, hk, hno => by
    rw [splitFrom_no (List.getElem?_eq_getElem hk) (hno k _ (Nat.lt_succ_self k) (List.getElem?_eq_getElem hk))]
    exact splitFrom_none k (Nat.le_of_succ_le hk) fun j q hj => hno j q (Nat.lt_succ_of_lt hj)

theorem cut_fits {W : Int} {ps : List (Str × Str)} (h : tot ps ≤ W) : cut W ps = none := if_neg (by lia)
theorem cut_over {W : Int} {cur more : List (Str × Str)} (hw : Whole cur) (hm : more ≠ []) (h : W < tot (cur ++ more)) (hno : ∀ j q, j < more.length - 1 → more[j]? = some q → endsSemi q.2 = false) : cut W (cur ++ more) = some cur.length := by
  unfold cut
  rw [if_pos h]
  have hl : 0 < more.length := List.length_pos_iff.mpr hm
  have : (cur ++ more).length - 1 = cur.length + (more.length - 1) := by rw [List.length_append]; lia
  rw [this]
  exact splitFrom_past hw _ (by lia) hno
theorem cut_lone {W : Int} {more : List (Str × Str)} (hno : ∀ j q, j < more.length - 1 → more[j]? = some q → endsSemi q.2 = false) : cut W more = none := by
  unfold cut
  split
  · exact splitFrom_none _ (Nat.sub_le _ _) hno
  · rfl

theorem chunk_none {W : Int} {ls : List Str} {cur : List (Str × Str)} {p : Str × Str} (h : cut W (cur ++ [p]) = none) : chunkS W (ls, cur) p = (ls, cur ++ [p]) := by unfold chunkS; dsimp only; rw [h]
theorem chunk_some {W : Int} {ls : List Str} {cur : List (Str × Str)} {p : Str × Str} {i : Nat} (h : cut W (cur ++ [p]) = some i) : chunkS W (ls, cur) p = (ls ++ [lineOf ((cur ++ [p]).take i)], (cur ++ [p]).drop i) := by unfold chunkS; dsimp only; rw [h]

theorem chunk_to {W : Int} {ls : List Str} {cur cur' : List (Str × Str)} {p : Str × Str} (e : cur ++ [p] = cur') (h : cut W cur' = none) : chunkS W (ls, cur) p = (ls, cur') := by subst e; exact chunk_none h
theorem chunk_cut {W : Int} {ls : List Str} {cur0 cur more : List (Str × Str)} {p : Str × Str} (e : cur0 ++ [p] = cur ++ more) (h : cut W (cur ++ more) = some cur.length) : chunkS W (ls, cur0) p = (ls ++ [lineOf cur], more) := by
  rw [chunk_some (i := cur.length) (by rw [e]; exact h), e, List.take_left' rfl, List.drop_left' rfl]
theorem no1 {a b d : Str × Str} (ha : endsSemi a.2 = false) (hb : endsSemi b.2 = false) : ∀ j q, j < [a, b, d].length - 1 → [a, b, d][j]? = some q → endsSemi q.2 = false := by
  intro j q hj e
  rcases j with _ | _ | j
  · simp at e; subst e; exact ha
  · simp at e; subst e; exact hb
  · simp at hj; lia
theorem no2 {a b : Str × Str} (ha : endsSemi a.2 = false) : ∀ j q, j < [a, b].length - 1 → [a, b][j]? = some q → endsSemi q.2 = false := by
  intro j q hj e
  rcases j with _ | j
  · simp at e; subst e; exact ha
  · simp at hj
theorem no3 {a : Str × Str} : ∀ j q, j < [a].length - 1 → [a][j]? = some q → endsSemi q.2 = false := by
  intro j q hj e
  simp at hj

/-- an entry's three words: they stay in the row, or the row goes out -/
theorem entry_step {W : Int} {ls : List Str} {cur : List (Str × Str)} {a b d : Str × Str} (hw : Whole cur) (ha : endsSemi a.2 = false) (hb : endsSemi b.2 = false) :
    [a, b, d].foldl (chunkS W) (ls, cur) = if tot (cur ++ [a, b, d]) ≤ W then (ls, cur ++ [a, b, d]) else (ls ++ [lineOf cur], [a, b, d]) := by
  have t1 : tot (cur ++ [a, b]) = tot (cur ++ [a]) + tot [b] := by rw [← tot_append, List.append_assoc]; rfl
  have t2 : tot (cur ++ [a, b, d]) = tot (cur ++ [a, b]) + tot [d] := by rw [← tot_append, List.append_assoc]; rfl
  have n1 := tot_nonneg [b]
  have n2 := tot_nonneg [d]
  have ab : (cur ++ [a]) ++ [b] = cur ++ [a, b] := by rw [List.append_assoc]; rfl
  have abd : (cur ++ [a, b]) ++ [d] = cur ++ [a, b, d] := by rw [List.append_assoc]; rfl
  show chunkS W (chunkS W (chunkS W (ls, cur) a) b) d = _
  by_cases h1 : W < tot (cur ++ [a])
  · have s1 := chunk_cut (ls := ls) (p := a) rfl (cut_over hw (by simp) h1 no3)
    have s2 := chunk_to (W := W) (ls := ls ++ [lineOf cur]) (cur := [a]) (cur' := [a, b]) (p := b) rfl (cut_lone (no2 ha))
    have s3 := chunk_to (W := W) (ls := ls ++ [lineOf cur]) (cur := [a, b]) (cur' := [a, b, d]) (p := d) rfl (cut_lone (no1 ha hb))
    rw [s1, s2, s3, if_neg (by lia)]
  · have s1 := chunk_to (ls := ls) (cur := cur) (p := a) rfl (cut_fits (W := W) (Int.not_lt.mp h1))
    rw [s1]
    by_cases h2 : W < tot (cur ++ [a, b])
    · have s2 := chunk_cut (ls := ls) (p := b) ab (cut_over hw (by simp) h2 (no2 ha))
      have s3 := chunk_to (W := W) (ls := ls ++ [lineOf cur]) (cur := [a, b]) (cur' := [a, b, d]) (p := d) rfl (cut_lone (no1 ha hb))
      rw [s2, s3, if_neg (by lia)]
    · have s2 := chunk_to (ls := ls) (p := b) ab (cut_fits (W := W) (Int.not_lt.mp h2))
      rw [s2]
      by_cases h3 : W < tot (cur ++ [a, b, d])
      · have s3 := chunk_cut (ls := ls) (p := d) abd (cut_over hw (by simp) h3 (no1 ha hb))
        rw [s3, if_neg (by lia)]
      · have s3 := chunk_to (ls := ls) (p := d) abd (cut_fits (W := W) (Int.not_lt.mp h3))
        rw [s3, if_pos (by lia)]
/-- the first entry -/
theorem entry_first {W : Int} {a b d : Str × Str} (ha : endsSemi a.2 = false) (hb : endsSemi b.2 = false) : [a, b, d].foldl (chunkS W) ([], []) = ([], [a, b, d]) := by
  show chunkS W (chunkS W (chunkS W ([], []) a) b) d = _
  have s1 := chunk_to (W := W) (ls := []) (cur := []) (cur' := [a]) (p := a) rfl (cut_lone no3)
  have s2 := chunk_to (W := W) (ls := []) (cur := [a]) (cur' := [a, b]) (p := b) rfl (cut_lone (no2 ha))
  have s3 := chunk_to (W := W) (ls := []) (cur := [a, b]) (cur' := [a, b, d]) (p := d) rfl (cut_lone (no1 ha hb))
  rw [s1, s2, s3]
end Mine
end
section
namespace Mine
open PySem PySem.W PySem.W.X PyProof.Rows PySem.Calls
/-- the three words of an entry -/
noncomputable abbrev Trip := Str × Str × Str
noncomputable def eStr (e : Trip) : Str := e.1 ++ t_blank ++ e.2.1 ++ t_blank ++ e.2.2
noncomputable def pts (e : Trip) : List (Str × Str) := [(t_blank, e.1), (t_blank, e.2.1), (t_blank, e.2.2)]
noncomputable def SemiOk : List Trip → Prop
  | [] => True
  | e :: r => endsSemi e.1 = false ∧ endsSemi e.2.1 = false ∧ (r ≠ [] → endsSemi e.2.2 = true) ∧ SemiOk r

theorem Str.ext' {a b : Str} (h : a.cps.toList = b.cps.toList) : a = b := by
  obtain ⟨⟨a⟩⟩ := a
  obtain ⟨⟨b⟩⟩ := b
  simp at h
  rw [h]
theorem Str.toList_append (a b : Str) : (a ++ b).cps.toList = a.cps.toList ++ b.cps.toList := by
  show (a.cps ++ b.cps).toList = _
  rw [Array.toList_append]
theorem join2_toList (a b : Str) : (Txt.join t_empty [a, b]).cps.toList = a.cps.toList ++ b.cps.toList := by
  show (a.cps ++ #[] ++ b.cps).toList = _
  simp
/-- joined code points -/
noncomputable def jn (sep : List Nat) : List (List Nat) → List Nat
  | [] => []
  | a :: r => a ++ r.flatMap fun b => sep ++ b
theorem glue_fold (g : Array Nat) : ∀ (ts : List Str) (acc : Array Nat), (ts.foldl (fun acc p => acc ++ g ++ p.cps) acc).toList = acc.toList ++ ts.flatMap fun b => g.toList ++ b.cps.toList
  | [], acc => by simp
  | t :: r, acc => by
    rw [List.foldl_cons, glue_fold g r]
    simp [List.append_assoc]
theorem join_toList (sep : Str) (ts : List Str) : (Txt.join sep ts).cps.toList = jn sep.cps.toList (ts.map (·.cps.toList)) := by
  cases ts with
  | nil => rfl
  | cons a r =>
    show (r.foldl (fun acc p => acc ++ sep.cps ++ p.cps) a.cps).toList = _
    rw [glue_fold]
    show _ = a.cps.toList ++ (r.map (·.cps.toList)).flatMap _
    rw [List.flatMap_map]
theorem jn_nil_sep (ts : List (List Nat)) : jn [] ts = ts.flatten := by
  cases ts with
  | nil => rfl
  | cons a r =>
    show a ++ r.flatMap (fun b => [] ++ b) = _
    simp
theorem lineOf_toList (ps : List (Str × Str)) : (lineOf ps).cps.toList = ps.flatMap fun p => p.1.cps.toList ++ p.2.cps.toList := by
  unfold lineOf
  rw [join_toList]
  show jn [] _ = _
  rw [jn_nil_sep, List.map_map]
  rw [List.flatMap_def]
  congr 1
  refine List.map_congr_left fun p _ => ?_
  exact join2_toList p.1 p.2
theorem lineOf_append (a b : List (Str × Str)) : (lineOf (a ++ b)).cps.toList = (lineOf a).cps.toList ++ (lineOf b).cps.toList := by
  rw [lineOf_toList, lineOf_toList, lineOf_toList, List.flatMap_append]
theorem tot_line (ps : List (Str × Str)) : tot ps = ((lineOf ps).length : Int) := by
  have : (lineOf ps).length = (lineOf ps).cps.toList.length := by rw [Array.length_toList]; rfl
  rw [this, lineOf_toList]
  clear this
  induction ps with
  | nil => rfl
  | cons p r ih =>
    have e : tot (p :: r) = (p.1.length : Int) + p.2.length + tot r := by unfold tot; simp
    rw [e, ih, List.flatMap_cons, List.length_append, List.length_append]
    have h1 : p.1.cps.toList.length = p.1.length := Array.length_toList
    have h2 : p.2.cps.toList.length = p.2.length := Array.length_toList
    rw [h1, h2]
    lia
theorem line_pts (e : Trip) : lineOf (pts e) = t_blank ++ eStr e := by
  refine Str.ext' ?_
  rw [lineOf_toList]
  unfold pts eStr
  simp only [Str.toList_append, List.flatMap_cons, List.flatMap_nil, List.append_nil, List.append_assoc]
theorem line_more (cur : List (Str × Str)) (e : Trip) : lineOf (cur ++ pts e) = lineOf cur ++ t_blank ++ eStr e := by
  refine Str.ext' ?_
  rw [lineOf_append, line_pts]
  simp only [Str.toList_append, List.append_assoc]

theorem whole_pts {cur : List (Str × Str)} {e : Trip} (h : endsSemi e.2.2 = true) : Whole (cur ++ pts e) := by
  refine ⟨cur ++ [(t_blank, e.1), (t_blank, e.2.1)], (t_blank, e.2.2), ?_, h⟩
  rw [List.append_assoc]; rfl

/-- THE LAYOUT: the formatter's rows are the greedy ones -/
theorem lay_rows (W : Int) : ∀ (es : List Trip) (ls : List Str) (cur : List (Str × Str)) (fuel : Nat), (es ≠ [] → Whole cur) → SemiOk es → es.length ≤ fuel →
    ((es.flatMap pts).foldl (chunkS W) (ls, cur)).1 ++ [lineOf ((es.flatMap pts).foldl (chunkS W) (ls, cur)).2] = rowsN W fuel (ls ++ [(fillRow W (lineOf cur) (es.map eStr)).1]) (fillRow W (lineOf cur) (es.map eStr)).2
  | [], ls, cur, fuel, _, _, _ => by
    show ls ++ [lineOf cur] = rowsN W fuel (ls ++ [lineOf cur]) []
    cases fuel <;> rfl
  | e :: r, ls, cur, fuel, hw, hs, hf => by
    obtain ⟨h1, h2, h3, h4⟩ := hs
    have hw' := hw (by simp)
    rw [List.flatMap_cons, List.foldl_append]
    have st := entry_step (W := W) (ls := ls) (a := (t_blank, e.1)) (b := (t_blank, e.2.1)) (d := (t_blank, e.2.2)) hw' h1 h2
    have st : (pts e).foldl (chunkS W) (ls, cur) = if tot (cur ++ pts e) ≤ W then (ls, cur ++ pts e) else (ls ++ [lineOf cur], pts e) := st
    rw [st]
    have ht : tot (cur ++ pts e) = ((lineOf cur).length : Int) + 1 + (eStr e).length := by
      rw [tot_line, line_more, Str.len_append, Str.len_append]
      have : t_blank.length = 1 := rfl
      lia
    rw [List.map_cons]
    by_cases hfit : tot (cur ++ pts e) ≤ W
    · rw [if_pos hfit]
      have e1 : fillRow W (lineOf cur) (eStr e :: r.map eStr) = fillRow W (lineOf cur ++ t_blank ++ eStr e) (r.map eStr) := if_pos (by rw [← ht]; exact hfit)
      rw [e1, ← line_more]
      exact lay_rows W r ls (cur ++ pts e) fuel (fun hr => whole_pts (h3 hr)) h4 (Nat.le_of_succ_le hf)
    · rw [if_neg hfit]
      have e1 : fillRow W (lineOf cur) (eStr e :: r.map eStr) = (lineOf cur, eStr e :: r.map eStr) := if_neg (by rw [← ht]; exact hfit)
      rw [e1]
      cases fuel with
      | zero => simp at hf
      | succ n =>
        show _ = rowsN W n (ls ++ [lineOf cur] ++ [(fillRow W (row0 (ls ++ [lineOf cur]) (eStr e)) (r.map eStr)).1]) (fillRow W (row0 (ls ++ [lineOf cur]) (eStr e)) (r.map eStr)).2
        have e2 : row0 (ls ++ [lineOf cur]) (eStr e) = lineOf (pts e) := by
          rw [line_pts]
          unfold row0
          rw [if_neg (by simp)]
        rw [e2]
        exact lay_rows W r (ls ++ [lineOf cur]) (pts e) n (fun hr => by have := whole_pts (cur := []) (h3 hr); simpa using this) h4 (by simpa using hf)
end Mine
end
section
namespace Mine
open PySem PySem.W PySem.W.X PyProof.Rows PySem.Calls
/-- begins and ends with no space -/
noncomputable def Solid (l : List Nat) : Prop := (∃ a r, l = a :: r ∧ Unicode.isSpace a = false) ∧ ∃ r z, l = r ++ [z] ∧ Unicode.isSpace z = false
theorem Solid.glue {a b : List Nat} (ha : Solid a) (hb : Solid b) (m : List Nat) : Solid (a ++ m ++ b) := by
  obtain ⟨⟨x, r, rfl, hx⟩, _⟩ := ha
  obtain ⟨_, ⟨r', z, rfl, hz⟩⟩ := hb
  exact ⟨⟨x, _, rfl, hx⟩, ⟨_, z, (List.append_assoc ..).symm, hz⟩⟩
theorem Solid.hi {l : List Nat} (h : Solid l) : l.reverse.takeWhile Unicode.isSpace = [] := by
  obtain ⟨_, ⟨r, z, rfl, hz⟩⟩ := h
  simp [hz]
theorem strip_solid {x : Str} (h : Solid x.cps.toList) : Txt.strip x = x := by
  have hlo : stripLo Unicode.isSpace true x = 0 := by
    obtain ⟨⟨a, r, e, ha⟩, _⟩ := h
    unfold stripLo
    rw [if_pos rfl, e]
    simp [ha]
  have hhi : stripHi Unicode.isSpace true x 0 = x.length := by
    unfold stripHi
    rw [if_pos rfl, List.drop_zero, h.hi]
    simp
  unfold Txt.strip Txt.stripBy stripSame
  rw [hlo, hhi]
  simp
theorem strip_blank {x : Str} (h : Solid x.cps.toList) : Txt.strip (t_blank ++ x) = x := by
  have e0 : (t_blank ++ x).cps.toList = 32 :: x.cps.toList := Str.toList_append t_blank x
  have hlo : stripLo Unicode.isSpace true (t_blank ++ x) = 1 := by
    obtain ⟨⟨a, r, e, ha⟩, _⟩ := h
    unfold stripLo
    rw [if_pos rfl, e0, e]
    have : Unicode.isSpace 32 = true := by decide
    simp [ha, this]
  have hhi : stripHi Unicode.isSpace true (t_blank ++ x) 1 = (t_blank ++ x).length := by
    unfold stripHi
    rw [if_pos rfl, e0]
    show _ - ((x.cps.toList).reverse.takeWhile Unicode.isSpace).length = _
    rw [h.hi]
    simp
  have hsame : stripSame Unicode.isSpace true true (t_blank ++ x) = false := by
    unfold stripSame
    rw [hlo]; rfl
  unfold Txt.strip Txt.stripBy
  rw [hsame]
  refine (if_neg Bool.false_ne_true).trans ?_
  refine Str.ext' ?_
  unfold PySem.stripped
  rw [hlo, hhi, StrLaws.strSub_toList, e0]
  have : (t_blank ++ x).length = x.cps.toList.length + 1 := by
    rw [Str.len_append, Array.length_toList]
    show 1 + x.cps.size = _
    lia
  rw [this]
  show (x.cps.toList).take (x.cps.toList.length + 1 - 1) = _
  rw [Nat.add_sub_cancel, List.take_length]

theorem jn_snoc (sep : List Nat) (l : List (List Nat)) (h : l ≠ []) (b : List Nat) : jn sep (l ++ [b]) = jn sep l ++ sep ++ b := by
  cases l with
  | nil => exact absurd rfl h
  | cons a r =>
    show a ++ (r ++ [b]).flatMap _ = a ++ r.flatMap _ ++ sep ++ b
    rw [List.flatMap_append]
    simp [List.append_assoc]
/-- the stripped rows, joined by hyphens -/
noncomputable def jst (rows : List Str) : List Nat := jn [45] (rows.map fun r => (Txt.strip r).cps.toList)
theorem jst_snoc {rows : List Str} (h : rows ≠ []) (r : Str) : jst (rows ++ [r]) = jst rows ++ 45 :: (Txt.strip r).cps.toList := by
  unfold jst
  rw [List.map_append, List.map_cons, List.map_nil, jn_snoc _ _ (by simpa using h)]
  simp
/-- entries with their separators -/
noncomputable def tailSep : List Nat → List (List Nat) → List Nat
  | b :: bs, e :: es => b :: e ++ tailSep bs es
  | _, _ => []

/-- a row with its blank or without -/
theorem strip_row {ls : List Str} {x : Str} (h : Solid x.cps.toList) : Txt.strip ((if ls.isEmpty then t_empty else t_blank) ++ x) = x := by
  cases ls with
  | nil =>
    show Txt.strip (t_empty ++ x) = x
    have : t_empty ++ x = x := Str.ext' (by rw [Str.toList_append]; rfl)
    rw [this]; exact strip_solid h
  | cons a r => exact strip_blank h

theorem jst_rows (W : Int) : ∀ (es : List Str) (ls : List Str) (body : Str) (fuel : Nat), Solid body.cps.toList → (∀ e ∈ es, Solid e.cps.toList) → es.length ≤ fuel →
    ∃ bs : List Nat, bs.length = es.length ∧ (∀ b ∈ bs, b = 32 ∨ b = 45) ∧
      jst (rowsN W fuel (ls ++ [(fillRow W (row0 ls body) es).1]) (fillRow W (row0 ls body) es).2) = jst (ls ++ [row0 ls body]) ++ tailSep bs (es.map (·.cps.toList))
  | [], ls, body, fuel, hb, _, _ => by
    refine ⟨[], rfl, fun b hb => (nomatch hb), ?_⟩
    show jst (rowsN W fuel (ls ++ [row0 ls body]) []) = _ ++ []
    rw [List.append_nil]
    cases fuel <;> rfl
  | e :: r, ls, body, fuel, hb, he, hf => by
    have hbe : Solid (body ++ t_blank ++ e).cps.toList := by
      rw [Str.toList_append, Str.toList_append]
      exact hb.glue (he e (List.mem_cons_self ..)) _
    by_cases hfit : ((row0 ls body).length : Int) + 1 + e.length ≤ W
    · have e1 : fillRow W (row0 ls body) (e :: r) = fillRow W (row0 ls body ++ t_blank ++ e) r := if_pos hfit
      have e2 : row0 ls body ++ t_blank ++ e = row0 ls (body ++ t_blank ++ e) := by
        unfold row0
        refine Str.ext' ?_
        simp only [Str.toList_append, List.append_assoc]
      rw [e1, e2]
      obtain ⟨bs, h1, h2, h3⟩ := jst_rows W r ls (body ++ t_blank ++ e) fuel hbe (fun x hx => he x (List.mem_cons_of_mem _ hx)) (Nat.le_of_succ_le hf)
      refine ⟨32 :: bs, by simp [h1], ?_, ?_⟩
      · intro b hb
        rcases List.mem_cons.mp hb with rfl | hb
        · exact .inl rfl
        · exact h2 b hb
      · rw [h3]
        have key : jst (ls ++ [row0 ls (body ++ t_blank ++ e)]) = jst (ls ++ [row0 ls body]) ++ 32 :: e.cps.toList := by
          have s1 : Txt.strip (row0 ls (body ++ t_blank ++ e)) = body ++ t_blank ++ e := strip_row hbe
          have s2 : Txt.strip (row0 ls body) = body := strip_row hb
          by_cases hl : ls = []
          · subst hl
            show jn [45] [_] = jn [45] [_] ++ _
            show (Txt.strip _).cps.toList ++ [] = (Txt.strip _).cps.toList ++ [] ++ _
            rw [s1, s2]
            simp [Str.toList_append]
          · rw [jst_snoc hl, jst_snoc hl, s1, s2]
            simp [Str.toList_append]
        rw [key]
        show _ = _ ++ (32 :: e.cps.toList ++ tailSep bs (r.map (·.cps.toList)))
        simp
    · have e1 : fillRow W (row0 ls body) (e :: r) = (row0 ls body, e :: r) := if_neg hfit
      rw [e1]
      cases fuel with
      | zero => simp at hf
      | succ n =>
        show ∃ bs : List Nat, _ ∧ _ ∧ jst (rowsN W n (ls ++ [row0 ls body] ++ [(fillRow W (row0 (ls ++ [row0 ls body]) e) r).1]) (fillRow W (row0 (ls ++ [row0 ls body]) e) r).2) = _
        obtain ⟨bs, h1, h2, h3⟩ := jst_rows W r (ls ++ [row0 ls body]) e n (he e (List.mem_cons_self ..)) (fun x hx => he x (List.mem_cons_of_mem _ hx)) (by simpa using hf)
        refine ⟨45 :: bs, by simp [h1], ?_, ?_⟩
        · intro b hb
          rcases List.mem_cons.mp hb with rfl | hb
          · exact .inr rfl
          · exact h2 b hb
        · rw [h3, jst_snoc (by simp)]
          have s1 : Txt.strip (row0 (ls ++ [row0 ls body]) e) = e := strip_row (he e (List.mem_cons_self ..))
          rw [s1]
          show _ = _ ++ (45 :: e.cps.toList ++ tailSep bs (r.map (·.cps.toList)))
          simp
end Mine
end
section
namespace Mine
open PySem PySem.W PySem.W.X PyProof.Rows PySem.Calls
noncomputable def swapN (c d : Nat) (x : Nat) : Nat := if x = c then d else x
theorem replG_one (c d : Nat) : ∀ l : List Nat, replG [c] [d] 0 l = l.map (swapN c d)
  | [] => rfl
  | x :: r => by
    have ih := replG_one c d r
    show (if [c].isPrefixOf (x :: r) then [d] ++ replG [c] [d] 0 r else x :: replG [c] [d] 0 r) = _
    have e : [c].isPrefixOf (x :: r) = (c == x) := by simp [List.isPrefixOf]
    rw [e, ih, List.map_cons]
    unfold swapN
    by_cases h : x = c
    · subst h; simp
    · have : (c == x) = false := by simpa using fun q => h q.symm
      rw [this, if_neg h]; rfl

theorem prefix_within {y v rest : List Nat} {c : Nat} (hc : c ∉ y) (h : y.isPrefixOf (v ++ c :: rest) = true) : y <+: v := by
  induction y generalizing v with
  | nil => exact List.nil_prefix
  | cons a y ih =>
    simp only [List.mem_cons, not_or] at hc
    cases v with
    | nil =>
      have : (a == c && y.isPrefixOf rest) = true := h
      simp only [Bool.and_eq_true, beq_iff_eq] at this
      exact absurd this.1.symm hc.1
    | cons b v =>
      have : (a == b && y.isPrefixOf (v ++ c :: rest)) = true := h
      simp only [Bool.and_eq_true, beq_iff_eq] at this
      obtain ⟨rfl, h2⟩ := this
      obtain ⟨t, ht⟩ := ih hc.2 h2
      exact ⟨t, by rw [← ht]; rfl⟩
theorem prefix_end {y v : List Nat} (h : y.isPrefixOf v = true) : y <+: v := List.isPrefixOf_iff_prefix.mp h

/-- a word without the sign k is left as it is -/
theorem replG_skipWord {y z : List Nat} {k : Nat} (hk : k ∈ y) : ∀ {w : List Nat} {c : Nat} {rest : List Nat}, c ∉ y → k ∉ w → replG y z 0 (w ++ c :: rest) = w ++ c :: replG y z 0 rest
  | [], c, rest, hc, _ => by
    show (if y.isPrefixOf (c :: rest) then _ else _) = _
    have : y.isPrefixOf (c :: rest) = false := by
      cases q : y.isPrefixOf (c :: rest) with
      | false => rfl
      | true =>
        obtain ⟨t, ht⟩ := prefix_within (v := []) hc q
        have : y = [] := List.append_eq_nil_iff.mp ht |>.1
        rw [this] at hk; cases hk
    rw [this]; rfl
  | b :: w, c, rest, hc, hw => by
    simp only [List.mem_cons, not_or] at hw
    show (if y.isPrefixOf (b :: w ++ c :: rest) then _ else b :: replG y z 0 (w ++ c :: rest)) = _
    have : y.isPrefixOf (b :: w ++ c :: rest) = false := by
      cases q : y.isPrefixOf (b :: w ++ c :: rest) with
      | false => rfl
      | true =>
        have hp := prefix_within hc q
        have := hp.subset hk
        rcases List.mem_cons.mp this with h | h
        · exact absurd h hw.1
        · exact absurd h hw.2
    rw [this]
    show b :: replG y z 0 (w ++ c :: rest) = _
    rw [replG_skipWord hk hc hw.2]; rfl
theorem replG_skipEnd {y z : List Nat} {k : Nat} (hk : k ∈ y) : ∀ {w : List Nat}, k ∉ w → replG y z 0 w = w
  | [], _ => rfl
  | b :: w, hw => by
    simp only [List.mem_cons, not_or] at hw
    show (if y.isPrefixOf (b :: w) then _ else b :: replG y z 0 w) = _
    have : y.isPrefixOf (b :: w) = false := by
      cases q : y.isPrefixOf (b :: w) with
      | false => rfl
      | true =>
        have := (prefix_end q).subset hk
        rcases List.mem_cons.mp this with h | h
        · exact absurd h hw.1
        · exact absurd h hw.2
    rw [this]
    show b :: replG y z 0 w = _
    rw [replG_skipEnd hk hw.2]
theorem replG_hit {y z rest : List Nat} (hy : y ≠ []) : replG y z 0 (y ++ rest) = z ++ replG y z 0 rest := by
  cases y with
  | nil => exact absurd rfl hy
  | cons a y =>
    show (if (a :: y).isPrefixOf (a :: (y ++ rest)) then z ++ replG (a :: y) z ((a :: y).length - 1) (y ++ rest) else _) = _
    have : (a :: y).isPrefixOf (a :: (y ++ rest)) = true := List.isPrefixOf_iff_prefix.mpr ⟨rest, rfl⟩
    rw [this, if_pos rfl, replG_skip]
    show z ++ replG (a :: y) z 0 ((y ++ rest).drop y.length) = _
    rw [List.drop_left' rfl]
end Mine
end
section
namespace Mine
open PySem PySem.W PySem.W.X PyProof.Rows PySem.Calls
noncomputable abbrev T3 := List Nat × List Nat × List Nat
/-- a machine's text, s between its fields -/
noncomputable def mt (s : Nat) (t : T3) : List Nat := t.1 ++ s :: (t.2.1 ++ s :: t.2.2)
/-- the machines behind the first: q, a separator, the text -/
noncomputable def bodyT (s q : Nat) : List (List Nat) → List T3 → List Nat
  | b :: bs, t :: ts => q :: (b ++ (mt s t ++ bodyT s q bs ts))
  | _, _ => []
noncomputable def full (s q : Nat) (bs : List (List Nat)) (t0 : T3) (ts : List T3) : List Nat := mt s t0 ++ bodyT s q bs ts
noncomputable def mapT (f : List Nat → List Nat) (t : T3) : T3 := (f t.1, f t.2.1, f t.2.2)
noncomputable def AllT (P : List Nat → Prop) (t : T3) : Prop := P t.1 ∧ P t.2.1 ∧ P t.2.2

theorem mt_map (f : Nat → Nat) (s : Nat) (t : T3) : (mt s t).map f = mt (f s) (mapT (·.map f) t) := by
  unfold mt mapT; simp
theorem bodyT_map (f : Nat → Nat) (s q : Nat) : ∀ (bs : List (List Nat)) (ts : List T3), (bodyT s q bs ts).map f = bodyT (f s) (f q) (bs.map (·.map f)) (ts.map (mapT (·.map f)))
  | [], _ => by simp [bodyT]
  | _ :: _, [] => by simp [bodyT]
  | b :: bs, t :: ts => by
    simp only [bodyT, List.map_cons, List.map_append, mt_map, bodyT_map f s q bs ts]
theorem full_map (f : Nat → Nat) (s q : Nat) (bs : List (List Nat)) (t0 : T3) (ts : List T3) : (full s q bs t0 ts).map f = full (f s) (f q) (bs.map (·.map f)) (mapT (·.map f) t0) (ts.map (mapT (·.map f))) := by
  unfold full
  rw [List.map_append, mt_map, bodyT_map]

/-- a word: y itself, or without the sign k -/
noncomputable def WordOk (y : List Nat) (k : Nat) (w : List Nat) : Prop := w = y ∨ k ∉ w
noncomputable def gone (y w : List Nat) : List Nat := if w = y then [] else w
theorem replG_word {y : List Nat} {k : Nat} (hk : k ∈ y) {w : List Nat} {c : Nat} {rest : List Nat} (hc : c ∉ y) (hw : WordOk y k w) : replG y [] 0 (w ++ c :: rest) = gone y w ++ c :: replG y [] 0 rest := by
  have h0 : replG y [] 0 (c :: rest) = c :: replG y [] 0 rest := by
    have := replG_skipWord (z := []) hk (w := []) (c := c) (rest := rest) hc (by simp)
    exact this
  unfold gone
  by_cases e : w = y
  · rw [if_pos e, e, replG_hit (fun q => by rw [q] at hk; cases hk), h0]
  · rw [if_neg e]
    rcases hw with h | h
    · exact absurd h e
    · exact replG_skipWord hk hc h
theorem replG_wordEnd {y : List Nat} {k : Nat} (hk : k ∈ y) {w : List Nat} (hw : WordOk y k w) : replG y [] 0 w = gone y w := by
  unfold gone
  by_cases e : w = y
  · rw [if_pos e, e]
    have := replG_hit (y := y) (z := []) (rest := []) (fun q => by rw [q] at hk; cases hk)
    rw [List.append_nil] at this
    rw [this]; rfl
  · rw [if_neg e]
    rcases hw with h | h
    · exact absurd h e
    · exact replG_skipEnd hk h

theorem replG_mt {y : List Nat} {k s c : Nat} {rest : List Nat} (hk : k ∈ y) (hs : s ∉ y) (hc : c ∉ y) {t : T3} (ht : AllT (WordOk y k) t) : replG y [] 0 (mt s t ++ c :: rest) = mt s (mapT (gone y) t) ++ c :: replG y [] 0 rest := by
  unfold mt mapT
  have e1 : (t.1 ++ s :: (t.2.1 ++ s :: t.2.2)) ++ c :: rest = t.1 ++ s :: (t.2.1 ++ s :: (t.2.2 ++ c :: rest)) := by simp
  rw [e1, replG_word hk hs ht.1, replG_word hk hs ht.2.1, replG_word hk hc ht.2.2]
  simp
theorem replG_mtEnd {y : List Nat} {k s : Nat} (hk : k ∈ y) (hs : s ∉ y) {t : T3} (ht : AllT (WordOk y k) t) : replG y [] 0 (mt s t) = mt s (mapT (gone y) t) := by
  unfold mt mapT
  rw [replG_word hk hs ht.1, replG_word hk hs ht.2.1, replG_wordEnd hk ht.2.2]

theorem replG_bodyT {y : List Nat} {k s q : Nat} (hk : k ∈ y) (hs : s ∉ y) (hq : q ∉ y) : ∀ (bs : List (List Nat)) (ts : List T3), (∀ b ∈ bs, ∃ d, b = [d] ∧ d ∉ y) → bs.length = ts.length → (∀ t ∈ ts, AllT (WordOk y k) t) →
    ∀ t0, AllT (WordOk y k) t0 → replG y [] 0 (full s q bs t0 ts) = full s q bs (mapT (gone y) t0) (ts.map (mapT (gone y)))
  | [], [], _, _, _, t0, h0 => by
    unfold full bodyT
    rw [List.append_nil, replG_mtEnd hk hs h0]
    simp [bodyT]
  | b :: bs, t :: ts, hb, hl, ht, t0, h0 => by
    obtain ⟨d, rfl, hd⟩ := hb b (List.mem_cons_self ..)
    have ih := replG_bodyT hk hs hq bs ts (fun b hb' => hb b (List.mem_cons_of_mem _ hb')) (by simpa using hl) (fun t h => ht t (List.mem_cons_of_mem _ h)) t (ht t (List.mem_cons_self ..))
    show replG y [] 0 (mt s t0 ++ q :: ([d] ++ full s q bs t ts)) = mt s (mapT (gone y) t0) ++ q :: ([d] ++ full s q bs (mapT (gone y) t) (ts.map (mapT (gone y))))
    rw [replG_mt hk hs hq h0]
    have := replG_skipWord (z := []) hk (w := []) (c := d) (rest := full s q bs t ts) hd (by simp)
    have : replG y [] 0 ([d] ++ full s q bs t ts) = d :: replG y [] 0 (full s q bs t ts) := this
    rw [this, ih]
    rfl
  | [], _ :: _, _, hl, _, _, _ => by simp at hl
  | _ :: _, [], _, hl, _, _, _ => by simp at hl
end Mine
end
section
namespace Mine
open PySem PySem.W PySem.W.X PyProof.Rows PySem.Calls
theorem hh_skip {x : Nat} {r : List Nat} (h : x ≠ 45) : replG [45, 45] [45] 0 (x :: r) = x :: replG [45, 45] [45] 0 r := by
  show (if [45, 45].isPrefixOf (x :: r) then _ else _) = _
  have : [45, 45].isPrefixOf (x :: r) = false := by
    show (45 == x && _) = false
    have : ((45 : Nat) == x) = false := by simpa using fun q => h q.symm
    rw [this]; rfl
  rw [this]; rfl
theorem hh_word : ∀ {w r : List Nat}, 45 ∉ w → replG [45, 45] [45] 0 (w ++ r) = w ++ replG [45, 45] [45] 0 r
  | [], r, _ => rfl
  | x :: w, r, h => by
    simp only [List.mem_cons, not_or] at h
    show replG [45, 45] [45] 0 (x :: (w ++ r)) = _
    rw [hh_skip (fun q => h.1 q.symm), hh_word h.2]; rfl
theorem hh_two {r : List Nat} : replG [45, 45] [45] 0 (45 :: 45 :: r) = 45 :: replG [45, 45] [45] 0 r := rfl
theorem hh_one {x : Nat} {r : List Nat} (h : x ≠ 45) : replG [45, 45] [45] 0 (45 :: x :: r) = 45 :: x :: replG [45, 45] [45] 0 r := by
  show (if [45, 45].isPrefixOf (45 :: x :: r) then _ else _) = _
  have : [45, 45].isPrefixOf (45 :: x :: r) = false := by
    show ((45 : Nat) == 45 && ((45 : Nat) == x && _)) = false
    have : ((45 : Nat) == x) = false := by simpa using fun q => h q.symm
    rw [this]; rfl
  rw [this]
  show 45 :: replG [45, 45] [45] 0 (x :: r) = _
  rw [hh_skip h]
theorem mt_no45 {t : T3} (h : AllT (45 ∉ ·) t) : 45 ∉ mt 95 t := by
  unfold mt
  simp only [List.mem_append, List.mem_cons, not_or]
  exact ⟨h.1, by decide, h.2.1, by decide, h.2.2⟩
theorem mt_head (t : T3) (h : AllT (45 ∉ ·) t) : ∃ x r, mt 95 t = x :: r ∧ x ≠ 45 := by
  cases e : mt 95 t with
  | nil => unfold mt at e; simp at e
  | cons x r =>
    refine ⟨x, r, rfl, fun q => ?_⟩
    have := mt_no45 h
    rw [e, q] at this
    exact this (List.mem_cons_self ..)
noncomputable def dd (b : List Nat) : List Nat := if b = [45] then [] else b
theorem hh_full : ∀ (bs : List (List Nat)) (ts : List T3), (∀ b ∈ bs, b = [95] ∨ b = [45]) → bs.length = ts.length → (∀ t ∈ ts, AllT (45 ∉ ·) t) → ∀ t0, AllT (45 ∉ ·) t0 →
    replG [45, 45] [45] 0 (full 95 45 bs t0 ts) = full 95 45 (bs.map dd) t0 ts
  | [], [], _, _, _, t0, h0 => by
    show replG [45, 45] [45] 0 (mt 95 t0 ++ []) = mt 95 t0 ++ []
    rw [hh_word (mt_no45 h0)]; rfl
  | b :: bs, t :: ts, hb, hl, ht, t0, h0 => by
    have ih := hh_full bs ts (fun b hb' => hb b (List.mem_cons_of_mem _ hb')) (by simpa using hl) (fun t h => ht t (List.mem_cons_of_mem _ h)) t (ht t (List.mem_cons_self ..))
    show replG [45, 45] [45] 0 (mt 95 t0 ++ 45 :: (b ++ full 95 45 bs t ts)) = mt 95 t0 ++ 45 :: (dd b ++ full 95 45 (bs.map dd) t ts)
    rw [hh_word (mt_no45 h0)]
    congr 1
    rcases hb b (List.mem_cons_self ..) with rfl | rfl
    · show replG [45, 45] [45] 0 (45 :: 95 :: full 95 45 bs t ts) = _
      rw [hh_one (by decide), ih]; rfl
    · show replG [45, 45] [45] 0 (45 :: 45 :: full 95 45 bs t ts) = _
      rw [hh_two, ih]; rfl
  | [], _ :: _, _, hl, _, _, _ => by simp at hl
  | _ :: _, [], _, hl, _, _, _ => by simp at hl
theorem hh_fix : ∀ (bs : List (List Nat)) (ts : List T3), (∀ b ∈ bs, b = [95] ∨ b = []) → bs.length = ts.length → (∀ t ∈ ts, AllT (45 ∉ ·) t) → ∀ t0, AllT (45 ∉ ·) t0 →
    replG [45, 45] [45] 0 (full 95 45 bs t0 ts) = full 95 45 bs t0 ts
  | [], [], _, _, _, t0, h0 => by
    show replG [45, 45] [45] 0 (mt 95 t0 ++ []) = mt 95 t0 ++ []
    rw [hh_word (mt_no45 h0)]; rfl
  | b :: bs, t :: ts, hb, hl, ht, t0, h0 => by
    have h1 := ht t (List.mem_cons_self ..)
    have ih := hh_fix bs ts (fun b hb' => hb b (List.mem_cons_of_mem _ hb')) (by simpa using hl) (fun t h => ht t (List.mem_cons_of_mem _ h)) t h1
    show replG [45, 45] [45] 0 (mt 95 t0 ++ 45 :: (b ++ full 95 45 bs t ts)) = mt 95 t0 ++ 45 :: (b ++ full 95 45 bs t ts)
    rw [hh_word (mt_no45 h0)]
    congr 1
    rcases hb b (List.mem_cons_self ..) with rfl | rfl
    · show replG [45, 45] [45] 0 (45 :: 95 :: full 95 45 bs t ts) = _
      rw [hh_one (by decide), ih]; rfl
    · show replG [45, 45] [45] 0 (45 :: full 95 45 bs t ts) = 45 :: full 95 45 bs t ts
      obtain ⟨x, r, e, hx⟩ := mt_head t h1
      have e2 : full 95 45 bs t ts = x :: (r ++ bodyT 95 45 bs ts) := by unfold full; rw [e]; rfl
      rw [e2] at ih ⊢
      rw [hh_skip hx] at ih
      rw [hh_one hx]
      rw [List.cons.injEq] at ih
      rw [ih.2]
  | [], _ :: _, _, hl, _, _, _ => by simp at hl
  | _ :: _, [], _, hl, _, _, _ => by simp at hl
end Mine
end
section
namespace Mine
open PySem PySem.W PySem.W.X PyProof.Rows PySem.Calls
theorem free_eq {c : Nat} : ∀ {a b u v : List Nat}, c ∉ a → c ∉ b → a ++ c :: u = b ++ c :: v → a = b ∧ u = v
  | [], [], u, v, _, _, h => by simpa using h
  | [], y :: b, u, v, _, hb, h => by
    simp only [List.nil_append, List.cons_append, List.cons.injEq] at h
    exact absurd h.1 (fun q => hb (q ▸ List.mem_cons_self ..))
  | x :: a, [], u, v, ha, _, h => by
    simp only [List.nil_append, List.cons_append, List.cons.injEq] at h
    exact absurd h.1 (fun q => ha (q ▸ List.mem_cons_self ..))
  | x :: a, y :: b, u, v, ha, hb, h => by
    simp only [List.cons_append, List.cons.injEq] at h
    simp only [List.mem_cons, not_or] at ha hb
    obtain ⟨h1, h2⟩ := free_eq ha.2 hb.2 h.2
    exact ⟨by rw [h.1, h1], h2⟩
theorem jn_cons2 (c : Nat) (a b : List Nat) (r : List (List Nat)) : jn [c] (a :: b :: r) = a ++ c :: jn [c] (b :: r) := by
  show a ++ (b :: r).flatMap _ = a ++ c :: (b ++ r.flatMap _)
  rw [List.flatMap_cons]
  simp
theorem jn_inj {c : Nat} : ∀ {ps qs : List (List Nat)}, ps ≠ [] → qs ≠ [] → (∀ p ∈ ps, c ∉ p) → (∀ q ∈ qs, c ∉ q) → jn [c] ps = jn [c] qs → ps = qs
  | [], _, h, _, _, _, _ => absurd rfl h
  | _ :: _, [], _, h, _, _, _ => absurd rfl h
  | [a], [b], _, _, _, _, h => by
    have : a ++ [] = b ++ [] := h
    simp only [List.append_nil] at this
    rw [this]
  | [a], b :: b' :: r, _, _, ha, _, h => by
    rw [jn_cons2] at h
    have h : a ++ [] = b ++ c :: _ := h
    rw [List.append_nil] at h
    exact absurd (ha a (List.mem_cons_self ..)) (by rw [h]; simp)
  | a :: a' :: r, [b], _, _, _, hb, h => by
    rw [jn_cons2] at h
    have h : a ++ c :: _ = b ++ [] := h
    rw [List.append_nil] at h
    exact absurd (hb b (List.mem_cons_self ..)) (by rw [← h]; simp)
  | a :: a' :: r, b :: b' :: r', _, _, ha, hb, h => by
    rw [jn_cons2, jn_cons2] at h
    obtain ⟨h1, h2⟩ := free_eq (ha a (List.mem_cons_self ..)) (hb b (List.mem_cons_self ..)) h
    have := jn_inj (by simp) (by simp) (fun p hp => ha p (List.mem_cons_of_mem _ hp)) (fun q hq => hb q (List.mem_cons_of_mem _ hq)) h2
    rw [h1, this]
/-- cut at one sign: the only way -/
theorem split_of {x : Str} {c : Nat} {ps : List (List Nat)} (h0 : ps ≠ []) (hf : ∀ p ∈ ps, c ∉ p) (e : x.cps.toList = jn [c] ps) : Txt.split x ⟨#[c]⟩ = ps.map fun p => (⟨⟨p⟩⟩ : Str) := by
  have h1 := StrLaws.join_split x ⟨#[c]⟩
  have h2 := StrLaws.split_free x c
  obtain ⟨a, r, hs⟩ := split_cons x ⟨#[c]⟩
  have h3 : Str.join ⟨#[c]⟩ (Txt.split x ⟨#[c]⟩) = Txt.join ⟨#[c]⟩ (Txt.split x ⟨#[c]⟩) := by
    rw [hs]
    exact (StrLaws.glued_eq_join ⟨#[c]⟩ (a :: r)).symm
  rw [h3] at h1
  have h4 : jn [c] ((Txt.split x ⟨#[c]⟩).map (·.cps.toList)) = jn [c] ps := by
    rw [← e]
    have := join_toList ⟨#[c]⟩ (Txt.split x ⟨#[c]⟩)
    rw [h1] at this
    exact this.symm
  have h5 := jn_inj (c := c) (by rw [hs]; simp) h0 (fun p hp => by
    obtain ⟨q, hq, rfl⟩ := List.mem_map.mp hp
    exact h2 q hq) hf h4
  rw [← h5, List.map_map]
  have : ((fun p => (⟨⟨p⟩⟩ : Str)) ∘ fun q : Str => q.cps.toList) = id := by
    funext q; obtain ⟨⟨l⟩⟩ := q; rfl
  rw [this, List.map_id]
end Mine
end
section
namespace Mine
open PySem PySem.W PySem.W.X PyProof.Rows PySem.Calls
/-- the entries' signs -/
noncomputable def entsL : List T3 → List (List Nat)
  | [] => []
  | t :: r => (mt 32 t ++ (if r.isEmpty then [] else [59])) :: entsL r
theorem ents_full : ∀ (ts : List T3) (t0 : T3) (bs : List Nat), bs.length = ts.length → (mt 32 t0 ++ (if ts.isEmpty then [] else [59])) ++ tailSep bs (entsL ts) = full 32 59 (bs.map fun b => [b]) t0 ts
  | [], t0, [], _ => by simp [entsL, tailSep, full, bodyT]
  | t :: ts, t0, b :: bs, h => by
    have ih := ents_full ts t bs (by simpa using h)
    show (mt 32 t0 ++ [59]) ++ (b :: (mt 32 t ++ (if ts.isEmpty then [] else [59])) ++ tailSep bs (entsL ts)) = mt 32 t0 ++ 59 :: ([b] ++ full 32 59 (bs.map fun b => [b]) t ts)
    rw [← ih]
    simp
  | [], _, _ :: _, h => by simp at h
  | _ :: _, _, [], h => by simp at h
end Mine
end
section
namespace Mine
open PySem PySem.W PySem.W.X PyProof.Rows PySem.Calls
/-- a field's signs -/
noncomputable def Fch (c : Nat) : Prop := c = 46 ∨ (48 ≤ c ∧ c ≤ 57) ∨ (65 ≤ c ∧ c ≤ 90) ∨ (97 ≤ c ∧ c ≤ 122)
theorem Fch.lt {c : Nat} (h : Fch c) : c < 123 := by unfold Fch at h; lia
theorem Fch.nsp {c : Nat} (h : Fch c) : Unicode.isSpace c = false := by
  have k : ∀ c : Nat, c < 123 → 33 ≤ c → Unicode.isSpace c = false := by decide +kernel
  exact k c h.lt (by unfold Fch at h; lia)
noncomputable abbrev unkL : List Nat := [117, 110, 107, 110, 111, 119, 110]
structure Good (w : List Nat) : Prop where
  ne : w ≠ []
  len : w.length ≤ 90
  ch : ∀ c ∈ w, Fch c
  word : WordOk unkL 107 w
noncomputable def Good3 (t : T3) : Prop := Good t.1 ∧ Good t.2.1 ∧ Good t.2.2
noncomputable def fs3 (t : T3) : List Str := [⟨⟨t.1⟩⟩, ⟨⟨t.2.1⟩⟩, ⟨⟨t.2.2⟩⟩]

noncomputable def tripsOf : List T3 → List Trip
  | [] => []
  | t :: r => (⟨⟨t.1⟩⟩, ⟨⟨t.2.1⟩⟩, ⟨⟨t.2.2 ++ (if r.isEmpty then [] else [59])⟩⟩) :: tripsOf r
theorem trips_len : ∀ ts : List T3, (tripsOf ts).length = ts.length
  | [] => rfl
  | t :: r => by simp [tripsOf, trips_len r]
theorem trips_ents : ∀ ts : List T3, ((tripsOf ts).map eStr).map (·.cps.toList) = entsL ts
  | [] => rfl
  | t :: r => by
    simp only [tripsOf, List.map_cons, entsL, trips_ents r]
    congr 1
    unfold eStr mt
    simp only [Str.toList_append]
    simp
theorem join3 (t : T3) : (Txt.join t_blank (fs3 t)).cps.toList = mt 32 t := by
  rw [join_toList]
  simp [fs3, jn, mt]
theorem entries_trips : ∀ ts : List T3, ts ≠ [] → entriesOf (ts.map fs3) = (tripsOf ts).map eStr
  | [], h => absurd rfl h
  | [t], _ => by
    show [] ++ [Txt.join t_blank (fs3 t)] = [eStr _]
    rw [List.nil_append]
    congr 1
    refine Str.ext' ?_
    rw [join3]
    unfold eStr mt
    simp only [Str.toList_append]
    simp
  | t :: t' :: r, _ => by
    have ih := entries_trips (t' :: r) (by simp)
    have e : entriesOf ((t :: t' :: r).map fs3) = (Txt.join t_blank (fs3 t) ++ t_semi) :: entriesOf ((t' :: r).map fs3) := rfl
    rw [e, ih]
    show _ = eStr _ :: (tripsOf (t' :: r)).map eStr
    congr 1
    refine Str.ext' ?_
    rw [Str.toList_append, join3]
    unfold eStr mt
    simp only [Str.toList_append]
    simp

theorem getLast_snoc59 (w : List Nat) : endsSemi ⟨⟨w ++ [59]⟩⟩ = true := by
  unfold endsSemi; simp
theorem good_noSemi {w : List Nat} (h : ∀ c ∈ w, Fch c) : endsSemi ⟨⟨w⟩⟩ = false := by
  unfold endsSemi
  show (w.getLast? == some 59) = false
  cases e : w.getLast? with
  | none => rfl
  | some c =>
    have := h c (List.mem_of_getLast? e)
    have hc : c ≠ 59 := by unfold Fch at this; lia
    simpa using hc
theorem trips_semi : ∀ ts : List T3, (∀ t ∈ ts, Good3 t) → SemiOk (tripsOf ts)
  | [], _ => trivial
  | t :: r, h => by
    obtain ⟨g1, g2, g3⟩ := h t (List.mem_cons_self ..)
    refine ⟨good_noSemi g1.ch, good_noSemi g2.ch, fun hr => ?_, trips_semi r fun t h' => h t (List.mem_cons_of_mem _ h')⟩
    have hr' : r ≠ [] := fun e => hr (by rw [e]; rfl)
    have : r.isEmpty = false := by simpa using hr'
    show endsSemi ⟨⟨t.2.2 ++ (if r.isEmpty then [] else [59])⟩⟩ = true
    rw [this]
    exact getLast_snoc59 _

/-- the words -/
noncomputable def wordsL : List T3 → List (List Nat)
  | [] => []
  | t :: r => t.1 :: t.2.1 :: (t.2.2 ++ (if r.isEmpty then [] else [59])) :: wordsL r
theorem wordsL_len : ∀ ts : List T3, (wordsL ts).length = 3 * ts.length
  | [] => rfl
  | t :: r => by simp [wordsL, wordsL_len r]; lia
theorem words_text : ∀ ts : List T3, ts ≠ [] → jn [32] (entsL ts) = spaced (wordsL ts)
  | [], h => absurd rfl h
  | [t], _ => by simp [entsL, jn, wordsL, spaced, mt]
  | t :: t' :: r, _ => by
    have ih := words_text (t' :: r) (by simp)
    have e : entsL (t :: t' :: r) = (mt 32 t ++ [59]) :: entsL (t' :: r) := rfl
    have e2 : ∃ a b, entsL (t' :: r) = a :: b := ⟨_, _, rfl⟩
    have e3 : ∃ a b, wordsL (t' :: r) = a :: b := ⟨_, _, rfl⟩
    have e4 : wordsL (t :: t' :: r) = t.1 :: t.2.1 :: (t.2.2 ++ [59]) :: wordsL (t' :: r) := rfl
    rw [e, e4]
    obtain ⟨a, b, e2⟩ := e2
    obtain ⟨a', b', e3⟩ := e3
    rw [e2] at ih ⊢
    rw [jn_cons2, ih, e3]
    show _ = t.1 ++ 32 :: (t.2.1 ++ 32 :: ((t.2.2 ++ [59]) ++ 32 :: spaced (a' :: b')))
    simp [mt]
noncomputable def Wch (c : Nat) : Prop := Fch c ∨ c = 59
theorem words_ok : ∀ ts : List T3, (∀ t ∈ ts, Good3 t) → ∀ w ∈ wordsL ts, w ≠ [] ∧ w.length ≤ 91 ∧ ∀ c ∈ w, Wch c
  | [], _, w, hw => nomatch hw
  | t :: r, h, w, hw => by
    obtain ⟨g1, g2, g3⟩ := h t (List.mem_cons_self ..)
    rcases List.mem_cons.mp hw with rfl | hw
    · exact ⟨g1.ne, Nat.le_succ_of_le g1.len, fun c hc => .inl (g1.ch c hc)⟩
    rcases List.mem_cons.mp hw with rfl | hw
    · exact ⟨g2.ne, Nat.le_succ_of_le g2.len, fun c hc => .inl (g2.ch c hc)⟩
    rcases List.mem_cons.mp hw with rfl | hw
    · refine ⟨by simp [g3.ne], ?_, fun c hc => ?_⟩
      · have := g3.len
        split <;> simp <;> lia
      · rcases List.mem_append.mp hc with hc | hc
        · exact .inl (g3.ch c hc)
        · split at hc
          · cases hc
          · exact .inr (by simpa using hc)
    · exact words_ok r (fun t h' => h t (List.mem_cons_of_mem _ h')) w hw
theorem Wch.calm {c : Nat} (h : Wch c) : Calm c := by
  unfold Calm; unfold Wch Fch at h; lia
theorem Wch.nsp {c : Nat} (h : Wch c) : Unicode.isSpace c = false := by
  rcases h with h | rfl
  · exact h.nsp
  · decide +kernel
theorem Wch.lt {c : Nat} (h : Wch c) : c < 123 := by unfold Wch Fch at h; lia
end Mine
end
section
namespace Mine
open PySem PySem.W PySem.W.X PyProof.Rows PySem.Calls
theorem words_pts : ∀ ts : List T3, ((wordsL ts).map fun v => ((⟨⟨[32]⟩⟩ : Str), (⟨⟨v⟩⟩ : Str))) = (tripsOf ts).flatMap pts
  | [] => rfl
  | t :: r => by
    have ih := words_pts r
    simp only [wordsL, List.map_cons, tripsOf, List.flatMap_cons, ih]
    rfl
/-- the first entry's parts -/
noncomputable def fst3 (t : T3) (r : List T3) : List (Str × Str) := [(t_empty, ⟨⟨t.1⟩⟩), (t_blank, ⟨⟨t.2.1⟩⟩), (t_blank, ⟨⟨t.2.2 ++ (if r.isEmpty then [] else [59])⟩⟩)]
theorem pairs_eq (t : T3) (r : List T3) : pairsOf (wordsL (t :: r)) = fst3 t r ++ (tripsOf r).flatMap pts := by
  rw [← words_pts r]; rfl
theorem lay_first {W : Int} {t : T3} {r : List T3} (g : Good3 t) : layS W (pairsOf (wordsL (t :: r))) = ((tripsOf r).flatMap pts).foldl (chunkS W) ([], fst3 t r) := by
  rw [pairs_eq]
  unfold layS
  rw [List.foldl_append]
  have e : (fst3 t r).foldl (chunkS W) ([], []) = ([], fst3 t r) := entry_first (good_noSemi g.1.ch) (good_noSemi g.2.1.ch)
  rw [e]
theorem line_fst (t : T3) (r : List T3) : lineOf (fst3 t r) = eStr ((⟨⟨t.1⟩⟩, ⟨⟨t.2.1⟩⟩, ⟨⟨t.2.2 ++ (if r.isEmpty then [] else [59])⟩⟩) : Trip) := by
  refine Str.ext' ?_
  rw [lineOf_toList]
  unfold fst3 eStr
  simp only [Str.toList_append, List.flatMap_cons, List.flatMap_nil, List.append_nil, List.append_assoc]
  rfl
theorem whole_fst {t : T3} {r : List T3} (h : r ≠ []) : Whole (fst3 t r) := by
  refine ⟨[(t_empty, ⟨⟨t.1⟩⟩), (t_blank, ⟨⟨t.2.1⟩⟩)], _, rfl, ?_⟩
  have : r.isEmpty = false := by simpa using h
  show endsSemi ⟨⟨t.2.2 ++ (if r.isEmpty then [] else [59])⟩⟩ = true
  rw [this]
  exact getLast_snoc59 _
theorem empty_app (x : Str) : t_empty ++ x = x := Str.ext' (by rw [Str.toList_append]; rfl)
theorem rowsOf_cons (W : Int) (e : Str) (es : List Str) : rowsOf W (e :: es) = rowsN W es.length ([] ++ [(fillRow W (row0 [] e) es).1]) (fillRow W (row0 [] e) es).2 := rfl
theorem row0_nil (e : Str) : row0 [] e = e := empty_app e
theorem lay_all {W : Int} {t : T3} {r : List T3} (g : ∀ x ∈ t :: r, Good3 x) : (layS W (pairsOf (wordsL (t :: r)))).1 ++ [lineOf (layS W (pairsOf (wordsL (t :: r)))).2] = rowsOf W (entriesOf ((t :: r).map fs3)) := by
  rw [lay_first (g t (List.mem_cons_self ..)), entries_trips _ (by simp)]
  rw [lay_rows W (tripsOf r) [] (fst3 t r) (((tripsOf r).map eStr).length) (fun h => whole_fst (fun e => h (by rw [e]; rfl))) (trips_semi r fun x hx => g x (List.mem_cons_of_mem _ hx)) (by simp)]
  show _ = rowsOf W (eStr _ :: (tripsOf r).map eStr)
  rw [rowsOf_cons, row0_nil, line_fst]

theorem splitFrom_le {ps : List (Str × Str)} : ∀ {k i : Nat}, splitFrom ps k = some i → i ≤ k
  | 0, i, h => by cases h
  | k + 1, i, h => by
    unfold splitFrom at h
    split at h
    · cases h; exact Nat.le_refl _
    · exact Nat.le_succ_of_le (splitFrom_le h)
theorem cut_le {W : Int} {ps : List (Str × Str)} {i : Nat} (h : cut W ps = some i) : i ≤ ps.length - 1 := by
  unfold cut at h
  split at h
  · exact splitFrom_le h
  · cases h
theorem chunk_last (W : Int) (st : List Str × List (Str × Str)) (p : Str × Str) : ∃ qs, (chunkS W st p).2 = qs ++ [p] := by
  unfold chunkS
  split
  · exact ⟨_, rfl⟩
  · rename_i i h
    have := cut_le h
    rw [List.length_append] at this
    refine ⟨st.2.drop i, ?_⟩
    show (st.2 ++ [p]).drop i = _
    exact List.drop_append_of_le_length (by simpa using this)
theorem layS_last (W : Int) {ps : List (Str × Str)} (h : ps ≠ []) : ∃ qs, (layS W ps).2 = qs ++ [ps.getLast h] := by
  have e := List.dropLast_concat_getLast h
  have := chunk_last W (layS W ps.dropLast) (ps.getLast h)
  rw [← layS_snoc, e] at this
  exact this

theorem ents_ok : ∀ ts : List T3, (∀ t ∈ ts, Good3 t) → ∀ l ∈ entsL ts, l ≠ [] ∧ l.length ≤ 300 ∧ (∀ c ∈ l, Wch c ∨ c = 32) ∧ Solid l
  | [], _, l, hl => nomatch hl
  | t :: r, h, l, hl => by
    obtain ⟨g1, g2, g3⟩ := h t (List.mem_cons_self ..)
    rcases List.mem_cons.mp hl with rfl | hl
    · generalize hs : (if r.isEmpty then [] else [59] : List Nat) = s
      have s1 : s.length ≤ 1 := by rw [← hs]; split <;> simp
      have s2 : ∀ c ∈ s, c = 59 := by rw [← hs]; split <;> simp
      have l1 := g1.len
      have l2 := g2.len
      have l3 := g3.len
      refine ⟨by simp [mt], ?_, ?_, ?_, ?_⟩
      · unfold mt
        simp only [List.length_append, List.length_cons]
        lia
      · intro c hc
        unfold mt at hc
        simp only [List.mem_append, List.mem_cons] at hc
        rcases hc with (hc | hc | hc | hc | hc) | hc
        · exact .inl (.inl (g1.ch c hc))
        · exact .inr hc
        · exact .inl (.inl (g2.ch c hc))
        · exact .inr hc
        · exact .inl (.inl (g3.ch c hc))
        · exact .inl (.inr (s2 c hc))
      · cases e : t.1 with
        | nil => exact absurd e g1.ne
        | cons a q => exact ⟨a, _, by unfold mt; rw [e]; rfl, (g1.ch a (by rw [e]; exact List.mem_cons_self ..)).nsp⟩
      · have hne : t.2.2 ++ s ≠ [] := by simp [g3.ne]
        refine ⟨t.1 ++ 32 :: (t.2.1 ++ 32 :: (t.2.2 ++ s).dropLast), (t.2.2 ++ s).getLast hne, ?_, ?_⟩
        · have e := List.dropLast_concat_getLast hne
          have : mt 32 t ++ s = t.1 ++ 32 :: (t.2.1 ++ 32 :: (t.2.2 ++ s)) := by simp [mt]
          rw [this]
          conv => lhs; rw [← e]
          simp
        · have hm := List.getLast_mem hne
          rcases List.mem_append.mp hm with hm | hm
          · exact (g3.ch _ hm).nsp
          · exact Wch.nsp (.inr (s2 _ hm))
    · exact ents_ok r (fun t h' => h t (List.mem_cons_of_mem _ h')) l hl

structure EntOk (e : Str) : Prop where
  ne : e.length ≠ 0
  len : e.length ≤ 900
  ch : ∀ c ∈ e.cps.toList, Wch c ∨ c = 32
structure RowOk (e : Str) : Prop where
  ne : e.length ≠ 0
  len : e.length ≤ 1000
  ch : ∀ c ∈ e.cps.toList, Wch c ∨ c = 32
theorem entries_ok {ts : List T3} (h0 : ts ≠ []) (h : ∀ t ∈ ts, Good3 t) : ∀ e ∈ entriesOf (ts.map fs3), EntOk e ∧ Solid e.cps.toList := by
  intro e he
  have hm : e.cps.toList ∈ entsL ts := by
    rw [← trips_ents, ← entries_trips ts h0]
    exact List.mem_map.mpr ⟨e, he, rfl⟩
  obtain ⟨a, b, d, f⟩ := ents_ok ts h _ hm
  have hl : e.cps.toList.length = e.length := Array.length_toList
  refine ⟨⟨?_, by lia, d⟩, f⟩
  rw [← hl]
  exact fun q => a (List.eq_nil_of_length_eq_zero q)
theorem row0_ok {ls : List Str} {e : Str} (h : EntOk e) : RowOk (row0 ls e) := by
  have h1 := h.ne
  have h2 := h.len
  unfold row0
  split
  · rw [empty_app]; exact ⟨h.ne, by lia, h.ch⟩
  · refine ⟨?_, ?_, ?_⟩
    · rw [Str.len_append]; lia
    · rw [Str.len_append]
      have : t_blank.length = 1 := rfl
      lia
    · intro c hc
      rw [Str.toList_append] at hc
      rcases List.mem_append.mp hc with hc | hc
      · exact .inr (by simpa using hc)
      · exact h.ch c hc
theorem fill_ok {W : Int} (hW : W < 1000) : ∀ (es : List Str) (row : Str), RowOk row → (∀ e ∈ es, EntOk e) → RowOk (fillRow W row es).1 ∧ ∀ e ∈ (fillRow W row es).2, EntOk e
  | [], row, h, _ => ⟨h, fun e he => nomatch he⟩
  | e :: r, row, h, he => by
    unfold fillRow
    split
    · rename_i hf
      refine fill_ok hW r _ ?_ fun x hx => he x (List.mem_cons_of_mem _ hx)
      have e1 := he e (List.mem_cons_self ..)
      have l1 : t_blank.length = 1 := rfl
      have l2 := h.ne
      refine ⟨?_, ?_, ?_⟩
      · rw [Str.len_append, Str.len_append]; lia
      · rw [Str.len_append, Str.len_append]; lia
      · intro c hc
        rw [Str.toList_append, Str.toList_append] at hc
        simp only [List.mem_append] at hc
        rcases hc with (hc | hc) | hc
        · exact h.ch c hc
        · exact .inr (by simpa using hc)
        · exact e1.ch c hc
    · exact ⟨h, he⟩
theorem rowsN_ok {W : Int} (hW : W < 1000) : ∀ (n : Nat) (rows es : List Str), (∀ x ∈ rows, RowOk x) → (∀ e ∈ es, EntOk e) → (∀ x ∈ rowsN W n rows es, RowOk x) ∧ (rowsN W n rows es).length ≤ rows.length + n
  | 0, rows, es, h, _ => ⟨h, Nat.le_refl _⟩
  | n + 1, rows, [], h, _ => ⟨h, Nat.le_add_right _ _⟩
  | n + 1, rows, e :: r, h, he => by
    have f := fill_ok hW r (row0 rows e) (row0_ok (he e (List.mem_cons_self ..))) fun x hx => he x (List.mem_cons_of_mem _ hx)
    have ih := rowsN_ok hW n (rows ++ [(fillRow W (row0 rows e) r).1]) (fillRow W (row0 rows e) r).2 (fun x hx => by
      rcases List.mem_append.mp hx with hx | hx
      · exact h x hx
      · rw [List.mem_singleton.mp hx]; exact f.1) f.2
    refine ⟨ih.1, ?_⟩
    have := ih.2
    rw [List.length_append] at this
    show (rowsN W n _ _).length ≤ _
    simp only [List.length_cons, List.length_nil] at this
    lia
end Mine
end
section
namespace Mine
open PySem PySem.W PySem.W.X PyProof.Rows PySem.Calls
theorem join_jst (rows : List Str) : (Txt.join t_hy (rows.map Txt.strip)).cps.toList = jst rows := by
  rw [join_toList]
  unfold jst
  rw [List.map_map]; rfl
theorem jst_full {W : Int} {t : T3} {r : List T3} (g : ∀ x ∈ t :: r, Good3 x) : ∃ bs : List Nat, bs.length = r.length ∧ (∀ b ∈ bs, b = 32 ∨ b = 45) ∧ jst (rowsOf W (entriesOf ((t :: r).map fs3))) = full 32 59 (bs.map fun b => [b]) t r := by
  have hs := entries_ok (ts := t :: r) (by simp) g
  have e1 := entries_trips (t :: r) (by simp)
  have e2 := trips_ents (t :: r)
  rw [e1] at hs ⊢
  have e3 : ∃ e0, (tripsOf (t :: r)).map eStr = e0 :: (tripsOf r).map eStr := ⟨_, rfl⟩
  obtain ⟨e0, e3⟩ := e3
  rw [e3] at hs e2 ⊢
  rw [List.map_cons] at e2
  have e2 : e0.cps.toList :: ((tripsOf r).map eStr).map (·.cps.toList) = (mt 32 t ++ (if r.isEmpty then [] else [59])) :: entsL r := e2
  rw [List.cons.injEq] at e2
  have s0 := (hs e0 (List.mem_cons_self ..)).2
  obtain ⟨bs, h1, h2, h3⟩ := jst_rows W ((tripsOf r).map eStr) [] e0 ((tripsOf r).map eStr).length s0 (fun e he => (hs e (List.mem_cons_of_mem _ he)).2) (Nat.le_refl _)
  have hl : bs.length = r.length := by rw [h1, List.length_map, trips_len]
  refine ⟨bs, hl, h2, ?_⟩
  rw [rowsOf_cons, h3, e2.2]
  have e4 : jst ([] ++ [row0 [] e0]) = mt 32 t ++ (if r.isEmpty then [] else [59]) := by
    rw [row0_nil, ← e2.1]
    show (Txt.strip e0).cps.toList ++ [] = _
    rw [strip_solid s0, List.append_nil]
  rw [e4]
  exact ents_full r t bs hl

noncomputable def swaps (x : Nat) : Nat := swapN 41 45 (swapN 40 45 (swapN 34 45 (swapN 59 45 (swapN 58 45 (swapN 92 45 (swapN 47 45 (swapN 32 95 x)))))))
theorem swaps_fch {c : Nat} (h : Fch c) : swaps c = c := by
  have k : ∀ c : Nat, c < 123 → (c = 46 ∨ (48 ≤ c ∧ c ≤ 57) ∨ (65 ≤ c ∧ c ≤ 90) ∨ (97 ≤ c ∧ c ≤ 122)) → swaps c = c := by decide +kernel
  exact k c h.lt h
theorem swaps_word {w : List Nat} (h : ∀ c ∈ w, Fch c) : w.map swaps = w := by
  conv => rhs; rw [← List.map_id w]
  exact List.map_congr_left fun c hc => swaps_fch (h c hc)
theorem swaps_T {t : T3} (g : Good3 t) : mapT (·.map swaps) t = t := by
  show (t.1.map swaps, t.2.1.map swaps, t.2.2.map swaps) = t
  rw [swaps_word g.1.ch, swaps_word g.2.1.ch, swaps_word g.2.2.ch]
theorem rep1 (x : Str) (c d : Nat) : (Txt.replace x ⟨⟨[c]⟩⟩ ⟨⟨[d]⟩⟩).cps.toList = x.cps.toList.map (swapN c d) := by
  rw [replace_eq x ⟨⟨[c]⟩⟩ ⟨⟨[d]⟩⟩ (Nat.le_refl 1)]
  exact replG_one c d _
theorem platA_list (rows : List Str) : (platA rows).cps.toList = replG unkL [] 0 ((jst rows).map swaps) := by
  unfold platA
  rw [replace_eq _ t_unknown t_empty (by decide)]
  rw [rep1, rep1, rep1, rep1, rep1, rep1, rep1, rep1, join_jst]
  simp only [List.map_map]
  rfl
theorem platB_list (rows : List Str) : (platB rows).cps.toList = replG [45, 45] [45] 0 (replG unkL [] 0 ((jst rows).map swaps)) := by
  unfold platB
  rw [replace_eq _ t_hyhy t_hy (by decide), platA_list]
theorem gone_no45 {w : List Nat} (h : ∀ c ∈ w, Fch c) : 45 ∉ gone unkL w := by
  unfold gone
  split
  · simp
  · intro q
    have := h 45 q
    unfold Fch at this; lia
theorem gone_no95 {w : List Nat} (h : ∀ c ∈ w, Fch c) : 95 ∉ gone unkL w := by
  unfold gone
  split
  · simp
  · intro q
    have := h 95 q
    unfold Fch at this; lia
theorem gone_len (w : List Nat) : (gone unkL w).length ≤ w.length := by
  unfold gone
  split <;> simp
theorem no45_T {t : T3} (g : Good3 t) : AllT (45 ∉ ·) (mapT (gone unkL) t) := ⟨gone_no45 g.1.ch, gone_no45 g.2.1.ch, gone_no45 g.2.2.ch⟩
theorem no95_T {t : T3} (g : Good3 t) : AllT (95 ∉ ·) (mapT (gone unkL) t) := ⟨gone_no95 g.1.ch, gone_no95 g.2.1.ch, gone_no95 g.2.2.ch⟩
theorem word_T {t : T3} (g : Good3 t) : AllT (WordOk unkL 107) t := ⟨g.1.word, g.2.1.word, g.2.2.word⟩

/-- THE FILE NAME: the machines' texts, a hyphen and perhaps an underscore between them -/
theorem plat_full {W : Int} {t : T3} {r : List T3} (g : ∀ x ∈ t :: r, Good3 x) : ∃ ds : List (List Nat), ds.length = r.length ∧ (∀ d ∈ ds, d = [95] ∨ d = []) ∧
    (platB (rowsOf W (entriesOf ((t :: r).map fs3)))).cps.toList = full 95 45 ds (mapT (gone unkL) t) (r.map (mapT (gone unkL))) := by
  obtain ⟨bs, h1, h2, h3⟩ := jst_full (W := W) g
  have gt := g t (List.mem_cons_self ..)
  have gr : ∀ x ∈ r, Good3 x := fun x hx => g x (List.mem_cons_of_mem _ hx)
  rw [platB_list, h3, full_map]
  have e1 : swaps 32 = 95 := by decide
  have e2 : swaps 59 = 45 := by decide
  have e3 : r.map (mapT (·.map swaps)) = r := by
    conv => rhs; rw [← List.map_id r]
    exact List.map_congr_left fun x hx => swaps_T (gr x hx)
  have e4 : ((bs.map fun b => [b]).map (·.map swaps)) = bs.map fun b => [swaps b] := by rw [List.map_map]; rfl
  rw [e1, e2, e3, e4, swaps_T gt]
  have hc : ∀ b ∈ bs.map (fun b => [swaps b]), b = [95] ∨ b = [45] := by
    intro b hb
    obtain ⟨a, ha, rfl⟩ := List.mem_map.mp hb
    rcases h2 a ha with rfl | rfl
    · exact .inl (by decide)
    · exact .inr (by decide)
  have hl : (bs.map fun b => [swaps b]).length = r.length := by rw [List.length_map, h1]
  generalize (bs.map fun b => [swaps b]) = cs at hc hl
  rw [replG_bodyT (k := 107) (by decide) (by decide) (by decide) cs r (fun b hb => by
    rcases hc b hb with rfl | rfl
    · exact ⟨95, rfl, by decide⟩
    · exact ⟨45, rfl, by decide⟩) hl (fun x hx => word_T (gr x hx)) t (word_T gt)]
  rw [hh_full cs (r.map (mapT (gone unkL))) hc (by rw [List.length_map, hl]) (fun x hx => by
    obtain ⟨a, ha, rfl⟩ := List.mem_map.mp hx
    exact no45_T (gr a ha)) _ (no45_T gt)]
  refine ⟨cs.map dd, by rw [List.length_map, hl], ?_, rfl⟩
  intro d hd
  obtain ⟨b, hb, rfl⟩ := List.mem_map.mp hd
  rcases hc b hb with rfl | rfl
  · exact .inl (by decide)
  · exact .inr (by decide)

theorem bodyT_flat : ∀ (ds : List (List Nat)) (ts : List T3), bodyT 95 45 ds ts = (List.zipWith (fun d t => d ++ mt 95 t) ds ts).flatMap fun b => [45] ++ b
  | [], _ => by simp [bodyT]
  | _ :: _, [] => by simp [bodyT]
  | d :: ds, t :: ts => by
    simp only [bodyT, List.zipWith_cons_cons, List.flatMap_cons, bodyT_flat ds ts]
    simp
theorem full_jn (ds : List (List Nat)) (t : T3) (ts : List T3) : full 95 45 ds t ts = jn [45] (mt 95 t :: List.zipWith (fun d t => d ++ mt 95 t) ds ts) := by
  unfold full
  rw [bodyT_flat]; rfl
theorem zip_mem {α β γ : Type} {f : α → β → γ} : ∀ {as : List α} {bs : List β} {x : γ}, x ∈ List.zipWith f as bs → ∃ a ∈ as, ∃ b ∈ bs, x = f a b
  | [], _, x, h => by simp at h
  | _ :: _, [], x, h => by simp at h
  | a :: as, b :: bs, x, h => by
    rw [List.zipWith_cons_cons] at h
    rcases List.mem_cons.mp h with rfl | h
    · exact ⟨a, List.mem_cons_self .., b, List.mem_cons_self .., rfl⟩
    · obtain ⟨a', ha, b', hb, e⟩ := zip_mem h
      exact ⟨a', List.mem_cons_of_mem _ ha, b', List.mem_cons_of_mem _ hb, e⟩
theorem zip_map {α β γ δ : Type} {f : α → β → γ} {g : γ → δ} {h : β → δ} : ∀ {as : List α} {bs : List β}, as.length = bs.length → (∀ a ∈ as, ∀ b ∈ bs, g (f a b) = h b) → (List.zipWith f as bs).map g = bs.map h
  | [], [], _, _ => rfl
  | a :: as, b :: bs, hl, k => by
    rw [List.zipWith_cons_cons, List.map_cons, List.map_cons, k a (List.mem_cons_self ..) b (List.mem_cons_self ..), zip_map (by simpa using hl) fun a ha b hb => k a (List.mem_cons_of_mem _ ha) b (List.mem_cons_of_mem _ hb)]
  | [], _ :: _, hl, _ => by simp at hl
  | _ :: _, [], hl, _ => by simp at hl

theorem split_piece {d : List Nat} {t : T3} (hd : d = [95] ∨ d = []) (h : AllT (95 ∉ ·) t) : last3 (Txt.split ⟨⟨d ++ mt 95 t⟩⟩ t_us) = fs3 t ∧ (Txt.split ⟨⟨d ++ mt 95 t⟩⟩ t_us).length ≤ 4 := by
  rcases hd with rfl | rfl
  · have e := split_of (x := ⟨⟨[95] ++ mt 95 t⟩⟩) (c := 95) (ps := [[], t.1, t.2.1, t.2.2]) (by simp) (fun p hp => by
      simp only [List.mem_cons, List.not_mem_nil, or_false] at hp
      rcases hp with rfl | rfl | rfl | rfl
      · simp
      · exact h.1
      · exact h.2.1
      · exact h.2.2) (by simp [jn, mt])
    have e : Txt.split ⟨⟨[95] ++ mt 95 t⟩⟩ t_us = [⟨⟨[]⟩⟩, ⟨⟨t.1⟩⟩, ⟨⟨t.2.1⟩⟩, ⟨⟨t.2.2⟩⟩] := e
    rw [e]
    exact ⟨rfl, by simp⟩
  · have e := split_of (x := ⟨⟨[] ++ mt 95 t⟩⟩) (c := 95) (ps := [t.1, t.2.1, t.2.2]) (by simp) (fun p hp => by
      simp only [List.mem_cons, List.not_mem_nil, or_false] at hp
      rcases hp with rfl | rfl | rfl
      · exact h.1
      · exact h.2.1
      · exact h.2.2) (by simp [jn, mt])
    have e : Txt.split ⟨⟨[] ++ mt 95 t⟩⟩ t_us = [⟨⟨t.1⟩⟩, ⟨⟨t.2.1⟩⟩, ⟨⟨t.2.2⟩⟩] := e
    rw [e]
    exact ⟨rfl, by simp⟩
theorem fs3_gone (t : T3) : fs3 (mapT (gone unkL) t) = (fs3 t).map blankOf := by
  have k : ∀ w : List Nat, (⟨⟨gone unkL w⟩⟩ : Str) = blankOf ⟨⟨w⟩⟩ := by
    intro w
    unfold gone blankOf
    by_cases h : w = unkL
    · rw [if_pos h, if_pos (by rw [h])]
    · rw [if_neg h, if_neg (fun q => h (by injection q with q; injection q))]
  show [(⟨⟨gone unkL t.1⟩⟩ : Str), ⟨⟨gone unkL t.2.1⟩⟩, ⟨⟨gone unkL t.2.2⟩⟩] = [blankOf ⟨⟨t.1⟩⟩, blankOf ⟨⟨t.2.1⟩⟩, blankOf ⟨⟨t.2.2⟩⟩]
  rw [k, k, k]
theorem mt_len {t : T3} (g : Good3 t) : (mt 95 (mapT (gone unkL) t)).length ≤ 300 := by
  have l1 := g.1.len
  have l2 := g.2.1.len
  have l3 := g.2.2.len
  have k1 := gone_len t.1
  have k2 := gone_len t.2.1
  have k3 := gone_len t.2.2
  unfold mt mapT
  simp only [List.length_append, List.length_cons]
  lia
theorem bodyT_len : ∀ (ds : List (List Nat)) (ts : List T3), (∀ d ∈ ds, d.length ≤ 1) → (∀ t ∈ ts, (mt 95 t).length ≤ 300) → (bodyT 95 45 ds ts).length ≤ 302 * ts.length
  | [], _, _, _ => by simp [bodyT]
  | _ :: _, [], _, _ => by simp [bodyT]
  | d :: ds, t :: ts, hd, ht => by
    have ih := bodyT_len ds ts (fun d h => hd d (List.mem_cons_of_mem _ h)) (fun t h => ht t (List.mem_cons_of_mem _ h))
    have h1 := hd d (List.mem_cons_self ..)
    have h2 := ht t (List.mem_cons_self ..)
    simp only [bodyT, List.length_cons, List.length_append]
    lia
theorem no45_last {l : List Nat} (h0 : l ≠ []) (h : 45 ∉ l) : ∃ pre x, l = pre ++ [x] ∧ x ≠ 45 := by
  refine ⟨l.dropLast, l.getLast h0, (List.dropLast_concat_getLast h0).symm, fun q => h ?_⟩
  rw [← q]; exact List.getLast_mem h0
theorem full_last : ∀ (ds : List (List Nat)) (ts : List T3), (∀ t ∈ ts, AllT (45 ∉ ·) t) → ∀ t0, AllT (45 ∉ ·) t0 → ∃ pre x, full 95 45 ds t0 ts = pre ++ [x] ∧ x ≠ 45
  | [], ts, _, t0, h0 => by
    obtain ⟨p, x, e, hx⟩ := no45_last (l := mt 95 t0) (by simp [mt]) (mt_no45 h0)
    exact ⟨p, x, by rw [← e]; simp [full, bodyT], hx⟩
  | d :: ds, [], _, t0, h0 => by
    obtain ⟨p, x, e, hx⟩ := no45_last (l := mt 95 t0) (by simp [mt]) (mt_no45 h0)
    exact ⟨p, x, by rw [← e]; simp [full, bodyT], hx⟩
  | d :: ds, t :: ts, ht, t0, h0 => by
    obtain ⟨p, x, e, hx⟩ := full_last ds ts (fun t h => ht t (List.mem_cons_of_mem _ h)) t (ht t (List.mem_cons_self ..))
    refine ⟨mt 95 t0 ++ 45 :: (d ++ p), x, ?_, hx⟩
    show mt 95 t0 ++ 45 :: (d ++ full 95 45 ds t ts) = _
    rw [e]; simp
end Mine
end
section
namespace Mine
open PySem PySem.W PySem.W.X PyProof.Rows PySem.Calls
theorem strOk_of {x : Str} (h : ∀ c ∈ x.cps.toList, c < 123) : PyData.strOk x = true := by
  unfold PyData.strOk
  rw [← Array.all_toList, List.all_eq_true]
  intro c hc
  have := h c hc
  exact decide_eq_true (by lia)
theorem mem_pairs {ws : List (List Nat)} {q : Str × Str} (h : q ∈ pairsOf ws) : (∃ w ∈ ws, q.2 = ⟨⟨w⟩⟩) ∧ (q.1 = t_empty ∨ q.1 = t_blank) := by
  cases ws with
  | nil => cases h
  | cons w r =>
    rcases List.mem_cons.mp h with rfl | h
    · exact ⟨⟨w, List.mem_cons_self .., rfl⟩, .inl rfl⟩
    · obtain ⟨v, hv, rfl⟩ := List.mem_map.mp h
      exact ⟨⟨v, List.mem_cons_of_mem _ hv, rfl⟩, .inr rfl⟩
theorem not_space {x : Str} {c : Nat} (h : c ∈ x.cps.toList) (hc : Unicode.isSpace c = false) : Txt.isspace x = false := by
  unfold Txt.isspace
  have : x.cps.all Unicode.isSpace = false := by
    rw [← Array.all_toList]
    cases q : x.cps.toList.all Unicode.isSpace with
    | false => rfl
    | true =>
      have := List.all_eq_true.mp q c h
      rw [hc] at this; cases this
  rw [this, Bool.and_false]
theorem last_at {x : Str} {pre : List Nat} {c : Nat} (h : x.cps.toList = pre ++ [c]) : (seqIndex? (-1) x.length).bind (x.cps[·]?) = some c := by
  have hl : x.length = pre.length + 1 := by
    have : x.cps.toList.length = x.length := Array.length_toList
    rw [← this, h]; simp
  have e : seqIndex? (-1) x.length = some pre.length := by
    unfold seqIndex?
    rw [hl]
    have h1 : (if (-1 : Int) < 0 then (-1 : Int) + ((pre.length + 1 : Nat) : Int) else -1) = (pre.length : Int) := by
      rw [if_pos (by decide)]; lia
    simp only [h1]
    rw [if_pos]
    · simp
    · simp only [Bool.and_eq_true, decide_eq_true_eq]; lia
  rw [e]
  show x.cps[pre.length]? = some c
  rw [← Array.getElem?_toList, h]
  simp

theorem tell_ok {W : Int} (hW : W < 1000) {t : T3} {r : List T3} (hn : r.length < 20) (g : ∀ x ∈ t :: r, Good3 x) : TellOk W ((t :: r).map fs3) := by
  have gt := g t (List.mem_cons_self ..)
  have gr : ∀ x ∈ r, Good3 x := fun x hx => g x (List.mem_cons_of_mem _ hx)
  have hpn : pairsOf (wordsL (t :: r)) ≠ [] := by rw [pairs_eq]; simp [fst3]
  obtain ⟨qs, hq⟩ := layS_last W hpn
  have hla := lay_all (W := W) g
  obtain ⟨ds, d1, d2, d3⟩ := plat_full (W := W) g
  have hws := words_ok (t :: r) g
  have hpm := mem_pairs (List.getLast_mem hpn)
  generalize hp : (pairsOf (wordsL (t :: r))).getLast hpn = p at hq hpm
  obtain ⟨⟨w, hw, hp2⟩, hp1⟩ := hpm
  obtain ⟨w1, w2, w3⟩ := hws w hw
  have hro : (∀ x ∈ rowsOf W (entriesOf ((t :: r).map fs3)), RowOk x) ∧ (rowsOf W (entriesOf ((t :: r).map fs3))).length ≤ 20 := by
    have h := rowsN_ok hW (entriesOf ((t :: r).map fs3)).length [] (entriesOf ((t :: r).map fs3)) (fun x hx => nomatch hx) (fun e he => (entries_ok (by simp) g e he).1)
    refine ⟨h.1, Nat.le_trans h.2 ?_⟩
    rw [entries_trips _ (by simp), List.length_map, trips_len]
    simp only [List.length_cons, List.length_nil]
    lia
  have hrne : rowsOf W (entriesOf ((t :: r).map fs3)) ≠ [] := by rw [← hla]; simp
  have hsp : Txt.split (platB (rowsOf W (entriesOf ((t :: r).map fs3)))) t_hy = (mt 95 (mapT (gone unkL) t) :: List.zipWith (fun d t => d ++ mt 95 t) ds (r.map (mapT (gone unkL)))).map fun p => (⟨⟨p⟩⟩ : Str) := by
    refine split_of (c := 45) (by simp) ?_ (by rw [d3, full_jn])
    intro p hp
    rcases List.mem_cons.mp hp with rfl | hp
    · exact mt_no45 (no45_T gt)
    · obtain ⟨d, hd, b, hb, rfl⟩ := zip_mem hp
      obtain ⟨a, ha, rfl⟩ := List.mem_map.mp hb
      have h1 := mt_no45 (no45_T (gr a ha))
      rcases d2 d hd with rfl | rfl
      · simp only [List.mem_append, not_or]; exact ⟨by decide, h1⟩
      · exact h1
  have hpc : ∀ pc ∈ Txt.split (platB (rowsOf W (entriesOf ((t :: r).map fs3)))) t_hy, pc.length ≤ 301 ∧ (Txt.split pc t_us).length ≤ 4 := by
    rw [hsp]
    intro pc hpc
    obtain ⟨p, hp, rfl⟩ := List.mem_map.mp hpc
    rcases List.mem_cons.mp hp with rfl | hp
    · exact ⟨Nat.le_succ_of_le (mt_len gt), (split_piece (d := []) (.inr rfl) (no95_T gt)).2⟩
    · obtain ⟨d, hd, b, hb, rfl⟩ := zip_mem hp
      obtain ⟨a, ha, rfl⟩ := List.mem_map.mp hb
      refine ⟨?_, (split_piece (d2 d hd) (no95_T (gr a ha))).2⟩
      show (d ++ mt 95 (mapT (gone unkL) a)).length ≤ 301
      have h1 := mt_len (gr a ha)
      rw [List.length_append]
      rcases d2 d hd with rfl | rfl <;> simp <;> lia
  have hd1 : ∀ d ∈ ds, d.length ≤ 1 := fun d hd => by rcases d2 d hd with rfl | rfl <;> simp
  refine ⟨wordsL (t :: r), (layS W (pairsOf (wordsL (t :: r)))).1, qs, p, ?_, ?_⟩
  · refine { len := ?_, flen := ?_, text := ?_, words := ?_, ne := ?_, wlen := ?_, wn := ?_, lay := ?_, ok1 := ?_, ok2 := ?_, p2 := ?_, tot0 := ?_, nsp := ?_, rows := ?_, split := ?_, rn := ?_, rlen := ?_, plat := ?_, last := ?_, platz := ?_, pn := ?_, pz := ?_, ps := ?_ }
    · rw [List.length_map, List.length_cons]; lia
    · intro fs hfs
      obtain ⟨x, hx, rfl⟩ := List.mem_map.mp hfs
      obtain ⟨g1, g2, g3⟩ := g x hx
      refine ⟨by simp [fs3], ?_⟩
      intro f hf
      simp only [fs3, List.mem_cons, List.not_mem_nil, or_false] at hf
      rcases hf with rfl | rfl | rfl
      · exact g1.len
      · exact g2.len
      · exact g3.len
    · rw [join_toList, entries_trips _ (by simp), trips_ents]
      exact words_text _ (by simp)
    · intro w hw
      obtain ⟨a, b, d⟩ := hws w hw
      exact ⟨a, fun c hc => (d c hc).calm⟩
    · simp [wordsL]
    · intro w hw
      have := (hws w hw).2.1
      lia
    · rw [wordsL_len, List.length_cons]; lia
    · exact Prod.ext rfl hq
    · rcases hp1 with e | e
      · rw [e]; exact strOk_of fun c hc => nomatch hc
      · rw [e]; exact strOk_of fun c hc => by rw [List.mem_singleton.mp hc]; decide
    · rw [hp2]
      exact strOk_of fun c hc => (w3 c hc).lt
    · rw [hp2]
      exact fun q => w1 (by injection q with q; injection q)
    · rw [tot_append]
      have h1 := tot_nonneg qs
      have h2 : tot [p] = (p.1.length : Int) + p.2.length := by unfold tot; simp
      have h3 : p.2.length = w.length := by rw [hp2]; rfl
      have h4 : 0 < w.length := List.length_pos_iff.mpr w1
      lia
    · cases w with
      | nil => exact absurd rfl w1
      | cons c w' =>
        refine not_space (c := c) ?_ (w3 c (List.mem_cons_self ..)).nsp
        rw [lineOf_append]
        refine List.mem_append_right _ ?_
        rw [lineOf_toList, List.flatMap_cons, hp2]
        simp
    · rw [← hla, hq]
    · have h := split_of (x := Txt.join t_nl (rowsOf W (entriesOf ((t :: r).map fs3)))) (c := 10) (ps := (rowsOf W (entriesOf ((t :: r).map fs3))).map (·.cps.toList)) (by simpa using hrne) (fun l hl => by
        obtain ⟨x, hx, rfl⟩ := List.mem_map.mp hl
        intro q
        have := (hro.1 x hx).ch 10 q
        unfold Wch Fch at this
        lia) (by rw [join_toList])
      refine h.trans ?_
      rw [List.map_map]
      conv => rhs; rw [← List.map_id (rowsOf W (entriesOf ((t :: r).map fs3)))]
      exact List.map_congr_left fun x _ => rfl
    · exact Nat.le_trans hro.2 (by decide)
    · intro x hx
      have h := hro.1 x hx
      refine ⟨h.ne, Nat.le_trans h.len (by decide), strOk_of fun c hc => ?_⟩
      rcases h.ch c hc with h | rfl
      · exact h.lt
      · decide
    · refine Str.ext' ?_
      rw [replace_eq _ t_hyhy t_hy (by decide), d3]
      exact hh_fix ds _ d2 (by rw [List.length_map, d1]) (fun x hx => by
        obtain ⟨a, ha, rfl⟩ := List.mem_map.mp hx
        exact no45_T (gr a ha)) _ (no45_T gt)
    · obtain ⟨pre, x, e, hx⟩ := full_last ds (r.map (mapT (gone unkL))) (fun x hx => by
        obtain ⟨a, ha, rfl⟩ := List.mem_map.mp hx
        exact no45_T (gr a ha)) _ (no45_T gt)
      exact ⟨x, last_at (d3.trans e), hx⟩
    · have h1 := bodyT_len ds (r.map (mapT (gone unkL))) hd1 (fun x hx => by
        obtain ⟨a, ha, rfl⟩ := List.mem_map.mp hx
        exact mt_len (gr a ha))
      have h2 := mt_len gt
      have h3 : (platB (rowsOf W (entriesOf ((t :: r).map fs3)))).cps.toList.length = (platB (rowsOf W (entriesOf ((t :: r).map fs3)))).length := Array.length_toList
      rw [← h3, d3]
      unfold full
      rw [List.length_map] at h1
      rw [List.length_append]
      lia
    · rw [hsp, List.length_map, List.length_cons, List.length_zipWith, List.length_map]
      lia
    · intro pc h
      exact Nat.le_trans (hpc pc h).1 (by decide)
    · intro pc h
      exact Nat.le_trans (hpc pc h).2 (by decide)
  · unfold toldOf
    rw [hsp, List.map_map, List.map_cons, zip_map (h := fs3) (by rw [List.length_map, d1]) (fun d hd b hb => by
      obtain ⟨a, ha, rfl⟩ := List.mem_map.mp hb
      exact (split_piece (d2 d hd) (no95_T (gr a ha))).1)]
    have h0 : ((fun p => last3 (Txt.split p t_us)) ∘ fun p => (⟨⟨p⟩⟩ : Str)) (mt 95 (mapT (gone unkL) t)) = fs3 (mapT (gone unkL) t) := (split_piece (d := []) (.inr rfl) (no95_T gt)).1
    rw [h0, fs3_gone, List.map_cons, List.map_cons, List.map_map, List.map_map]
    congr 1
    exact List.map_congr_left fun x _ => fs3_gone x
end Mine
end
section
namespace Mine
open PySem PySem.W PySem.W.X PyProof.Rows PySem.Calls PySem.NumText
/-- numbers -/
theorem numS_dig (n : Nat) : ∀ c ∈ (numS n).cps.toList, 48 ≤ c ∧ c ≤ 57 := by
  intro c hc
  have e : (numS n).cps.toList = (Nat.toDigits 10 n).map Char.toNat := KIN.signs_num n
  rw [e] at hc
  obtain ⟨ch, hch, rfl⟩ := List.mem_map.mp hc
  exact digit_range (Nat.isDigit_of_mem_toDigits (by decide) (by decide) hch)
theorem numS_len {n : Nat} (h : n < 1000) : (numS n).length ≤ 10 := KT.len_num (n := (n : Int)) (by lia) (by lia)
theorem numS_llen {n : Nat} (h : n < 1000) : (numS n).cps.toList.length ≤ 10 := by
  have := numS_len h
  rw [Array.length_toList]; exact this
theorem numS_reads {n : Nat} (h : n < 1000) : PySem.intText? (numS n) = some (n : Int) := KIN.num_reads (n := (n : Int)) (by lia) (by lia)
theorem numI_numS {n : Nat} (h : 3 ≤ n) : numI ((n : Int) - 3) = numS (n - 3) := by
  unfold numI numS
  have : (n : Int) - 3 = ((n - 3 : Nat) : Int) := by lia
  rw [this]
theorem numS_head {n : Nat} {d : Nat} {r : List Nat} (h : (numS n).cps.toList = d :: r) (h5 : n < 5) : d < 53 := by
  have e : (numS n).cps.toList = (Nat.toDigits 10 n).map Char.toNat := KIN.signs_num n
  rw [e, Nat.toDigits_of_lt_base (by lia)] at h
  have k : ∀ n : Nat, n < 5 → (Nat.digitChar n).toNat < 53 := by decide
  have h : (Nat.digitChar n).toNat :: [] = d :: r := h
  injection h with h1 h2
  rw [← h1]; exact k n h5
theorem bigD_eq {n : Nat} {d : Nat} {r : List Nat} (h : (numS n).cps.toList = d :: r) : bigD n = decide (53 ≤ d) := by
  have hd := numS_dig n d (by rw [h]; exact List.mem_cons_self ..)
  have e : (numS n).cps.getD 0 0 = d := by
    have := getD_of h 0
    rw [this]; rfl
  unfold bigD
  rw [e]
  have k : ∀ d : Nat, d < 58 → 48 ≤ d → Txt.contains t_digs ⟨#[d]⟩ = decide (53 ≤ d) := by decide +kernel
  exact k d (by lia) hd.1
theorem bigD_ge {n : Nat} (h : bigD n = true) : 5 ≤ n := by
  obtain ⟨d, r, e, _⟩ := numS_ne n
  rw [bigD_eq e] at h
  have := of_decide_eq_true h
  refine Nat.le_of_not_lt fun q => ?_
  have := numS_head e q
  lia
theorem lt_five {d : Nat} {r : List Nat} : (d :: r < [53]) ↔ d < 53 := by
  rw [List.cons_lt_cons_iff]
  constructor
  · rintro (h | ⟨_, h⟩)
    · exact h
    · exact absurd h (List.not_lt_nil _)
  · exact .inl

/-- what stands behind a release's number -/
def TailOk (tl : Str) (rest : List Str) : Prop := (tl = t_empty ∧ rest = []) ∨ ∃ u : List Nat, tl = ⟨⟨46 :: u⟩⟩ ∧ 46 ∉ u ∧ u.length ≤ 50 ∧ rest = [⟨⟨u⟩⟩]
theorem no46 {n : Nat} : 46 ∉ (numS n).cps.toList := fun q => by have := numS_dig n 46 q; lia
theorem split_rel {n : Nat} {tl : Str} {rest : List Str} (h : TailOk tl rest) : Txt.split (numS n ++ tl) t_dot = numS n :: rest := by
  rcases h with ⟨rfl, rfl⟩ | ⟨u, rfl, hu, _, rfl⟩
  · exact split_of (x := numS n ++ t_empty) (c := 46) (ps := [(numS n).cps.toList]) (by simp) (fun p hp => by rw [List.mem_singleton.mp hp]; exact no46) (by rw [Str.toList_append]; rfl)
  · exact split_of (x := numS n ++ ⟨⟨46 :: u⟩⟩) (c := 46) (ps := [(numS n).cps.toList, u]) (by simp) (fun p hp => by
      simp only [List.mem_cons, List.not_mem_nil, or_false] at hp
      rcases hp with rfl | rfl
      · exact no46
      · exact hu) (by rw [Str.toList_append, jn_cons2]; simp [jn])
theorem join_rel {x tl : Str} {rest : List Str} (h : TailOk tl rest) : Txt.join t_dot (x :: rest) = x ++ tl := by
  refine Str.ext' ?_
  rw [join_toList, Str.toList_append]
  rcases h with ⟨rfl, rfl⟩ | ⟨u, rfl, hu, _, rfl⟩
  · simp [jn]
  · simp [jn]
theorem split_free1 {x : Str} (h : 46 ∉ x.cps.toList) : Txt.split x t_dot = [x] :=
  split_of (x := x) (c := 46) (ps := [x.cps.toList]) (by simp) (fun p hp => by rw [List.mem_singleton.mp hp]; exact h) (by simp [jn])

theorem drop_none {p : Nat → Bool} {l : List Nat} (h : ∀ c ∈ l, p c = false) : l.dropWhile p = l := by
  cases l with
  | nil => rfl
  | cons a r => rw [List.dropWhile_cons, h a (List.mem_cons_self ..)]; rfl
theorem take_all {p : Nat → Bool} {l : List Nat} (h : ∀ c ∈ l, p c = true) : l.takeWhile p = l := by
  induction l with
  | nil => rfl
  | cons a r ih => rw [List.takeWhile_cons, h a (List.mem_cons_self ..), if_pos rfl, ih fun c hc => h c (List.mem_cons_of_mem _ hc)]
theorem seen_plain {x : Str} (h : ∀ c ∈ x.cps.toList, Fch c) : numSeenOf x = x.cps.toList := by
  have h1 : x.cps.all (· < 128) = true := by
    rw [← Array.all_toList, List.all_eq_true]
    intro c hc
    have := (h c hc).lt
    exact decide_eq_true (by lia)
  show (if x.cps.all (· < 128) then x.cps.toList else Unicode.numberText x.cps.toList).takeWhile (· != 0) = _
  rw [if_pos h1]
  refine take_all fun c hc => ?_
  have := h c hc
  have : c ≠ 0 := by unfold Fch at this; lia
  simpa using this
theorem core_plain {l : List Nat} (h : ∀ c ∈ l, Fch c) : core l = l := by
  have hb : ∀ c ∈ l, blank c = false := by
    intro c hc
    have := h c hc
    unfold Fch at this
    unfold blank
    simp only [Bool.or_eq_false_iff, Bool.and_eq_false_iff, beq_eq_false_iff_ne, decide_eq_false_iff_not]
    lia
  have hs : (sign l).2 = l := by
    unfold sign
    split
    · rename_i r
      have := h 45 (List.mem_cons_self ..)
      unfold Fch at this; lia
    · rename_i r
      have := h 43 (List.mem_cons_self ..)
      unfold Fch at this; lia
    · rfl
  unfold core
  rw [drop_none hb, hs, drop_none (fun c hc => hb c (List.mem_reverse.mp hc)), List.reverse_reverse]
theorem head_refused {x : Str} {d : Nat} {r : List Nat} (h : ∀ c ∈ x.cps.toList, Fch c) (hx : x.length ≤ 200) (e : x.cps.toList = d :: r) (hd : 97 ≤ d) : HeadOk x := by
  have hf := h d (by rw [e]; exact List.mem_cons_self ..)
  have dn : digits? 10 (core (numSeenOf x)) = none := by
    rw [seen_plain h, core_plain h, e]
    unfold digits?
    rw [List.foldlM_cons]
    have : step 10 ((#[] : Array Nat), false) d = none := by
      have k : ∀ d : Nat, d < 123 → 97 ≤ d → step 10 ((#[] : Array Nat), false) d = none := by decide +kernel
      exact k d hf.lt hd
    rw [this]; rfl
  refine ⟨hx, .inr ⟨?_, dn, ?_⟩⟩
  · unfold PySem.intText?
    rw [dn]
    split <;> rfl
  · have := StrLaws.reprText_len x fun c hc => by have := (h c hc).lt; lia
    lia
theorem head_empty : HeadOk t_empty := by
  have dn : digits? 10 (core (numSeenOf t_empty)) = none := by
    have k : ∀ c ∈ t_empty.cps.toList, Fch c := fun c hc => absurd hc List.not_mem_nil
    rw [seen_plain k, core_plain k]; rfl
  refine ⟨by decide, .inr ⟨?_, dn, ?_⟩⟩
  · unfold PySem.intText?
    rw [dn]
    split <;> rfl
  · have := StrLaws.reprText_len t_empty fun c hc => absurd hc List.not_mem_nil
    exact Nat.le_trans this (by decide)

def RelOk (rel : Str) : Prop := rel.length ≤ 200 ∧ HeadOk (relHead rel) ∧ ((relTail rel).map (·.length)).sum + (relTail rel).length ≤ 1000
theorem relOk_num {n : Nat} {tl : Str} {rest : List Str} (hn : n < 1000) (h : TailOk tl rest) : RelOk (numS n ++ tl) := by
  have hl := numS_len hn
  have hh : relHead (numS n ++ tl) = numS n := by unfold relHead; rw [split_rel h]; rfl
  have ht : relTail (numS n ++ tl) = rest := by unfold relTail; rw [split_rel h]; rfl
  refine ⟨?_, ?_, ?_⟩
  · rw [Str.len_append]
    rcases h with ⟨rfl, rfl⟩ | ⟨u, rfl, hu, hz, rfl⟩
    · show _ + 0 ≤ _; lia
    · show _ + (u.length + 1) ≤ _; lia
  · rw [hh]
    exact ⟨by lia, .inl ⟨n, numS_reads hn, by lia, by lia⟩⟩
  · rw [ht]
    rcases h with ⟨rfl, rfl⟩ | ⟨u, rfl, hu, hz, rfl⟩
    · decide
    · show (u.length + 0) + 1 ≤ _; lia
theorem relOk_one {x : Str} (h : 46 ∉ x.cps.toList) (hx : x.length ≤ 200) (hh : HeadOk x) : RelOk x := by
  have h1 : relHead x = x := by unfold relHead; rw [split_free1 h]; rfl
  have h2 : relTail x = [] := by unfold relTail; rw [split_free1 h]; rfl
  exact ⟨hx, by rw [h1]; exact hh, by rw [h2]; decide⟩
theorem relOk_unknown : RelOk t_unknown := relOk_one (by decide) (by decide) (head_refused (d := 117) (fun c hc => by
  have k : ∀ c ∈ unkL, 97 ≤ c ∧ c ≤ 122 := by decide
  exact .inr (.inr (.inr (k c hc)))) (by decide) rfl (by decide))
theorem relOk_empty : RelOk t_empty := relOk_one (by decide) (by decide) head_empty
theorem v_list (n : Nat) : (t_v ++ numS n).cps.toList = 118 :: (numS n).cps.toList := by rw [Str.toList_append]; rfl
theorem v_len {n : Nat} (hn : n < 1000) : (t_v ++ numS n).length ≤ 11 := by
  rw [Str.len_append]
  have := numS_len hn
  show 1 + _ ≤ _; lia
theorem v_ch {n : Nat} : ∀ c ∈ (t_v ++ numS n).cps.toList, Fch c := by
  intro c hc
  rw [v_list] at hc
  rcases List.mem_cons.mp hc with rfl | hc
  · unfold Fch; lia
  · exact .inr (.inl (numS_dig n c hc))
theorem relOk_v {n : Nat} (hn : n < 1000) : RelOk (t_v ++ numS n) := by
  have hl := v_len hn
  refine relOk_one ?_ (by lia) (head_refused (d := 118) v_ch (by lia) (v_list n) (by decide))
  rw [v_list]
  simp only [List.mem_cons, not_or]
  exact ⟨by decide, no46⟩

/-- system_alias, case by case -/
theorem alias_other {sys rel ver : Str} (h : sys ≠ t_SunOS) : aliasS sys rel ver = [winOf sys, rel, ver] := by
  unfold aliasS; rw [if_neg h]
theorem alias_small {n : Nat} {tl ver : Str} (h : bigD n = false) : aliasS t_SunOS (numS n ++ tl) ver = [t_SunOS, numS n ++ tl, ver] := by
  obtain ⟨d, r, e, _⟩ := numS_ne n
  rw [bigD_eq e] at h
  have hd := of_decide_eq_false h
  unfold aliasS
  rw [if_pos rfl, if_pos]
  rw [Str.toList_append, e]
  exact lt_five.mpr (by lia)
theorem alias_big {n : Nat} {tl ver : Str} {rest : List Str} (hn : n < 1000) (ht : TailOk tl rest) (h : bigD n = true) : aliasS t_SunOS (numS n ++ tl) ver = [t_Solaris, numI ((n : Int) - 3) ++ tl, ver] := by
  obtain ⟨d, r, e, _⟩ := numS_ne n
  rw [bigD_eq e] at h
  have hd := of_decide_eq_true h
  have hh : relHead (numS n ++ tl) = numS n := by unfold relHead; rw [split_rel ht]; rfl
  have htl : relTail (numS n ++ tl) = rest := by unfold relTail; rw [split_rel ht]; rfl
  unfold aliasS
  rw [if_pos rfl, if_neg]
  · rw [hh, htl, numS_reads hn]
    show [t_Solaris, Txt.join t_dot (numI ((n : Int) - 3) :: rest), ver] = _
    rw [join_rel ht]
  · rw [Str.toList_append, e]
    intro q
    have := lt_five.mp q
    lia
theorem head_none {x : Str} {d : Nat} {r : List Nat} (h : ∀ c ∈ x.cps.toList, Fch c) (hx : x.length ≤ 200) (e : x.cps.toList = d :: r) (hd : 97 ≤ d) : PySem.intText? x = none := by
  rcases (head_refused h hx e hd).2 with ⟨n, hn, _⟩ | h
  · exfalso
    have dn : digits? 10 (core (numSeenOf x)) = none := by
      rw [seen_plain h, core_plain h, e]
      unfold digits?
      rw [List.foldlM_cons]
      have : step 10 ((#[] : Array Nat), false) d = none := by
        have k : ∀ d : Nat, d < 123 → 97 ≤ d → step 10 ((#[] : Array Nat), false) d = none := by decide +kernel
        exact k d (h d (by rw [e]; exact List.mem_cons_self ..)).lt hd
      rw [this]; rfl
    unfold PySem.intText? at hn
    rw [dn] at hn
    split at hn <;> cases hn
  · exact h.1
theorem alias_word {x ver : Str} {d : Nat} {r : List Nat} (h : ∀ c ∈ x.cps.toList, Fch c) (h46 : 46 ∉ x.cps.toList) (hx : x.length ≤ 200) (e : x.cps.toList = d :: r) (hd : 97 ≤ d) : aliasS t_SunOS x ver = [t_Solaris, x, ver] := by
  have hh : relHead x = x := by unfold relHead; rw [split_free1 h46]; rfl
  unfold aliasS
  rw [if_pos rfl, if_neg]
  · rw [hh, head_none h hx e hd]
  · rw [e]
    intro q
    have := lt_five.mp q
    lia
theorem alias_empty {ver : Str} : aliasS t_SunOS t_empty ver = [t_SunOS, t_empty, ver] := by
  unfold aliasS
  rw [if_pos rfl, if_pos]
  exact List.nil_lt_cons _ _
end Mine
end
section
namespace Mine
open PySem PySem.W PySem.W.X PyProof.Rows PySem.Calls
abbrev GoodS (x : Str) : Prop := Good x.cps.toList
theorem goodC {x : Str} (h : (x.cps.toList ≠ [] ∧ x.cps.toList.length ≤ 90) ∧ (∀ c ∈ x.cps.toList, c = 46 ∨ (48 ≤ c ∧ c ≤ 57) ∨ (65 ≤ c ∧ c ≤ 90) ∨ (97 ≤ c ∧ c ≤ 122)) ∧ (x.cps.toList = unkL ∨ 107 ∉ x.cps.toList)) : GoodS x :=
  ⟨h.1.1, h.1.2, h.2.1, h.2.2⟩
theorem gSunOS : GoodS t_SunOS := goodC (by decide)
theorem gSolaris : GoodS t_Solaris := goodC (by decide)
theorem gunknown : GoodS t_unknown := goodC (by decide)
theorem gwin16 : GoodS t_win16 := goodC (by decide)
theorem gwin32 : GoodS t_win32 := goodC (by decide)
theorem gWindows : GoodS t_Windows := goodC (by decide)
theorem gLinux : GoodS t_Linux := goodC (by decide)
theorem gxx : GoodS t_xx := goodC (by decide)
theorem gi386 : GoodS t_i386 := goodC (by decide)
theorem gv1 : GoodS t_v1 := goodC (by decide)
theorem gsun4u : GoodS t_sun4u := goodC (by decide)
theorem GoodS.ok {x : Str} (g : GoodS x) : PyData.strOk x = true := strOk_of fun c hc => (g.ch c hc).lt
theorem ok_empty : PyData.strOk t_empty = true := strOk_of fun c hc => absurd hc List.not_mem_nil
theorem GoodS.okB {x : Str} (g : GoodS x) : PyData.strOk (blankOf x) = true := by
  unfold blankOf
  split
  · exact ok_empty
  · exact g.ok
theorem good_num {n : Nat} {tl : Str} (hn : n < 1000) (h1 : tl.cps.toList.length ≤ 5) (h2 : ∀ c ∈ tl.cps.toList, c = 46 ∨ (48 ≤ c ∧ c ≤ 57)) : GoodS (numS n ++ tl) := by
  have hl := numS_llen hn
  have e : (numS n ++ tl).cps.toList = (numS n).cps.toList ++ tl.cps.toList := Str.toList_append _ _
  have ch : ∀ c ∈ (numS n ++ tl).cps.toList, c = 46 ∨ (48 ≤ c ∧ c ≤ 57) := by
    intro c hc
    rw [e] at hc
    rcases List.mem_append.mp hc with hc | hc
    · exact .inr (numS_dig n c hc)
    · exact h2 c hc
  refine ⟨?_, ?_, ?_, .inr ?_⟩
  · obtain ⟨d, r, q, _⟩ := numS_ne n
    rw [e, q]; simp
  · rw [e, List.length_append]; lia
  · intro c hc
    rcases ch c hc with h | h
    · exact .inl h
    · exact .inr (.inl h)
  · intro q
    have := ch 107 q
    lia
theorem good_v {n : Nat} (hn : n < 1000) : GoodS (t_v ++ numS n) := by
  have hl := numS_llen hn
  refine ⟨by rw [v_list]; simp, by rw [v_list, List.length_cons]; lia, v_ch, .inr ?_⟩
  rw [v_list]
  simp only [List.mem_cons, not_or]
  exact ⟨by decide, fun q => by have := numS_dig n 107 q; lia⟩

structure MForm (m : Mach) : Prop where
  sys : m.sys = t_SunOS ∨ m.sys = t_unknown ∨ m.sys = t_win16 ∨ m.sys = t_win32 ∨ m.sys = t_Linux
  ver : GoodS m.ver
  rel : (∃ n, n < 1000 ∧ m.num = some n ∧ (m.tail = t_empty ∨ m.tail = t_d10 ∨ m.tail = t_d8)) ∨ (m.num = none ∧ (m.tail = t_unknown ∨ ∃ n, n < 1000 ∧ m.tail = t_v ++ numS n))

theorem tail_ok {tl : Str} (h : tl = t_empty ∨ tl = t_d10 ∨ tl = t_d8) : (∃ rest, TailOk tl rest) ∧ tl.cps.toList.length ≤ 5 ∧ ∀ c ∈ tl.cps.toList, c = 46 ∨ (48 ≤ c ∧ c ≤ 57) := by
  rcases h with rfl | rfl | rfl
  · exact ⟨⟨_, .inl ⟨rfl, rfl⟩⟩, by decide, by decide⟩
  · exact ⟨⟨_, .inr ⟨[49, 48], rfl, by decide, by decide, rfl⟩⟩, by decide, by decide⟩
  · exact ⟨⟨_, .inr ⟨[56], rfl, by decide, by decide, rfl⟩⟩, by decide, by decide⟩
theorem num_not_unk {n : Nat} {tl : Str} : numS n ++ tl ≠ t_unknown := by
  intro q
  obtain ⟨d, r, e, h1, h2⟩ := numS_ne n
  have e2 : (numS n ++ tl).cps.toList = d :: (r ++ tl.cps.toList) := by rw [Str.toList_append, e]; rfl
  rw [q] at e2
  injection e2 with a b
  lia
theorem v_not_unk {n : Nat} : t_v ++ numS n ≠ t_unknown := by
  intro q
  have e2 := v_list n
  rw [q] at e2
  injection e2 with a b
  exact absurd a (by decide)
theorem blank_num {n : Nat} {tl : Str} : blankOf (numS n ++ tl) = numS n ++ tl := if_neg num_not_unk
theorem blank_v {n : Nat} : blankOf (t_v ++ numS n) = t_v ++ numS n := if_neg v_not_unk
theorem blank_unk : blankOf t_unknown = t_empty := if_pos rfl
theorem blank_Sun : blankOf t_SunOS = t_SunOS := if_neg (by decide)
theorem blank_Sol : blankOf t_Solaris = t_Solaris := if_neg (by decide)

theorem MForm.relF {m : Mach} (f : MForm m) : RelOk (relOf m) ∧ GoodS (relOf m) ∧ RelOk (blankOf (relOf m)) := by
  obtain ⟨sys, num, tail, ver⟩ := m
  rcases f.rel with ⟨n, hn, e, ht⟩ | ⟨e, ht⟩
  · have e : num = some n := e
    subst e
    obtain ⟨⟨rest, t1⟩, t2, t3⟩ := tail_ok ht
    show RelOk (numS n ++ tail) ∧ GoodS (numS n ++ tail) ∧ RelOk (blankOf (numS n ++ tail))
    rw [blank_num]
    exact ⟨relOk_num hn t1, good_num hn t2 t3, relOk_num hn t1⟩
  · have e : num = none := e
    subst e
    show RelOk tail ∧ GoodS tail ∧ RelOk (blankOf tail)
    rcases ht with ht | ⟨n, hn, ht⟩
    · have ht : tail = t_unknown := ht
      rw [ht, blank_unk]
      exact ⟨relOk_unknown, gunknown, relOk_empty⟩
    · have ht : tail = t_v ++ numS n := ht
      rw [ht, blank_v]
      exact ⟨relOk_v hn, good_v hn, relOk_v hn⟩

theorem aok {sys rel ver : Str} {due : List Str} (e : aliasS sys rel ver = due) (hr : RelOk rel) (hok : ∀ y ∈ due, PyData.strOk y = true) : AOk [sys, rel, ver] due :=
  ⟨sys, rel, ver, rfl, e, hr.1, hr.2.1, hr.2.2, hok⟩
theorem ok3 {a b d : Str} (ha : PyData.strOk a = true) (hb : PyData.strOk b = true) (hd : PyData.strOk d = true) : ∀ y ∈ [a, b, d], PyData.strOk y = true := by
  intro y hy
  simp only [List.mem_cons, List.not_mem_nil, or_false] at hy
  rcases hy with rfl | rfl | rfl
  · exact ha
  · exact hb
  · exact hd
theorem good3 {a b d : Str} (ha : GoodS a) (hb : GoodS b) (hd : GoodS d) : ∃ x y z, [a, b, d] = [x, y, z] ∧ GoodS x ∧ GoodS y ∧ GoodS z := ⟨a, b, d, rfl, ha, hb, hd⟩

/-- all that system_alias has to say of a machine -/
structure MAll (m : Mach) : Prop where
  pl : ∃ x y z, plainF m = [x, y, z] ∧ GoodS x ∧ GoodS y ∧ GoodS z
  al : ∃ x y z, aliasF m = [x, y, z] ∧ GoodS x ∧ GoodS y ∧ GoodS z
  a1 : AOk (plainF m) (aliasF m)
  a2 : AOk (aliasF m) (aliasF m)
  a3 : ∃ sys rel ver, plainF m = [sys, rel, ver] ∧ AOk ((plainF m).map blankOf) (if sys = t_SunOS ∧ rel = t_unknown then (plainF m).map blankOf else (aliasF m).map blankOf)

theorem win_facts {x : Str} (h : x = t_unknown ∨ x = t_win16 ∨ x = t_win32 ∨ x = t_Linux) : x ≠ t_SunOS ∧ GoodS x ∧ GoodS (winOf x) ∧ winOf x ≠ t_SunOS ∧ winOf (winOf x) = winOf x ∧ blankOf x ≠ t_SunOS ∧ winOf (blankOf x) = blankOf (winOf x) := by
  rcases h with rfl | rfl | rfl | rfl
  · exact ⟨by decide, gunknown, by rw [show winOf t_unknown = t_unknown from if_neg (by decide)]; exact gunknown, by decide, by decide, by decide, by decide⟩
  · exact ⟨by decide, gwin16, by rw [show winOf t_win16 = t_Windows from if_pos (by decide)]; exact gWindows, by decide, by decide, by decide, by decide⟩
  · exact ⟨by decide, gwin32, by rw [show winOf t_win32 = t_Windows from if_pos (by decide)]; exact gWindows, by decide, by decide, by decide, by decide⟩
  · exact ⟨by decide, gLinux, by rw [show winOf t_Linux = t_Linux from if_neg (by decide)]; exact gLinux, by decide, by decide, by decide, by decide⟩

theorem MForm.other {m : Mach} (f : MForm m) (h : m.sys ≠ t_SunOS) : MAll m := by
  obtain ⟨r1, r2, r3⟩ := f.relF
  have gv := f.ver
  obtain ⟨w1, w2, w3, w4, w5, w6, w7⟩ := win_facts (x := m.sys) (by
    rcases f.sys with q | q
    · exact absurd q h
    · exact q)
  have ea : aliasF m = [winOf m.sys, relOf m, m.ver] := by unfold aliasF; rw [if_neg h]; rfl
  have ep : plainF m = [m.sys, relOf m, m.ver] := rfl
  refine ⟨?_, ?_, ?_, ?_, ?_⟩
  · rw [ep]; exact good3 w2 r2 gv
  · rw [ea]; exact good3 w3 r2 gv
  · rw [ea, ep]; exact aok (alias_other h) r1 (ok3 w3.ok r2.ok gv.ok)
  · rw [ea]; exact aok ((alias_other w4).trans (by rw [w5])) r1 (ok3 w3.ok r2.ok gv.ok)
  · refine ⟨_, _, _, ep, ?_⟩
    rw [if_neg (fun q => h q.1), ea, ep]
    show AOk [blankOf m.sys, blankOf (relOf m), blankOf m.ver] [blankOf (winOf m.sys), blankOf (relOf m), blankOf m.ver]
    refine aok ((alias_other w6).trans (by rw [w7])) r3 (ok3 ?_ r2.okB gv.okB)
    exact GoodS.okB w3

theorem sun_big {n : Nat} {tl ver : Str} {rest : List Str} (hn : n < 1000) (t1 : TailOk tl rest) (t2 : tl.cps.toList.length ≤ 5) (t3 : ∀ c ∈ tl.cps.toList, c = 46 ∨ (48 ≤ c ∧ c ≤ 57)) (gv : GoodS ver) (hb : bigD n = true) : MAll ⟨t_SunOS, some n, tl, ver⟩ := by
  have h5 := bigD_ge hb
  have ep : plainF ⟨t_SunOS, some n, tl, ver⟩ = [t_SunOS, numS n ++ tl, ver] := rfl
  have ea : aliasF ⟨t_SunOS, some n, tl, ver⟩ = [t_Solaris, numS (n - 3) ++ tl, ver] := by
    unfold aliasF
    rw [if_pos rfl]
    show (if bigD n then [t_Solaris, numI ((n : Int) - 3) ++ tl, ver] else _) = _
    rw [if_pos hb, numI_numS (by lia)]
  have eS : ∀ v, aliasS t_SunOS (numS n ++ tl) v = [t_Solaris, numS (n - 3) ++ tl, v] := fun v => by rw [alias_big hn t1 hb, numI_numS (by lia)]
  have g1 : GoodS (numS n ++ tl) := good_num hn t2 t3
  have g2 : GoodS (numS (n - 3) ++ tl) := good_num (by lia) t2 t3
  have ne : t_Solaris ≠ t_SunOS := by decide
  have wS : winOf t_Solaris = t_Solaris := if_neg (by decide)
  refine ⟨?_, ?_, ?_, ?_, ?_⟩
  · rw [ep]; exact good3 gSunOS g1 gv
  · rw [ea]; exact good3 gSolaris g2 gv
  · rw [ea, ep]; exact aok (eS ver) (relOk_num hn t1) (ok3 gSolaris.ok g2.ok gv.ok)
  · rw [ea]; exact aok ((alias_other ne).trans (by rw [wS])) (relOk_num (by lia) t1) (ok3 gSolaris.ok g2.ok gv.ok)
  · refine ⟨_, _, _, ep, ?_⟩
    rw [if_neg (fun q => num_not_unk q.2), ea, ep]
    show AOk [blankOf t_SunOS, blankOf (numS n ++ tl), blankOf ver] [blankOf t_Solaris, blankOf (numS (n - 3) ++ tl), blankOf ver]
    rw [blank_Sun, blank_Sol, blank_num, blank_num]
    exact aok (eS _) (relOk_num hn t1) (ok3 gSolaris.ok g2.ok gv.okB)

theorem sun_small {n : Nat} {tl ver : Str} {rest : List Str} (hn : n < 1000) (t1 : TailOk tl rest) (t2 : tl.cps.toList.length ≤ 5) (t3 : ∀ c ∈ tl.cps.toList, c = 46 ∨ (48 ≤ c ∧ c ≤ 57)) (gv : GoodS ver) (hb : bigD n = false) : MAll ⟨t_SunOS, some n, tl, ver⟩ := by
  have ep : plainF ⟨t_SunOS, some n, tl, ver⟩ = [t_SunOS, numS n ++ tl, ver] := rfl
  have ea : aliasF ⟨t_SunOS, some n, tl, ver⟩ = [t_SunOS, numS n ++ tl, ver] := by
    unfold aliasF
    rw [if_pos rfl]
    show (if bigD n then _ else plainF ⟨t_SunOS, some n, tl, ver⟩) = _
    rw [hb]; rfl
  have g1 : GoodS (numS n ++ tl) := good_num hn t2 t3
  have a := aok (alias_small (tl := tl) (ver := ver) hb) (relOk_num hn t1) (ok3 gSunOS.ok g1.ok gv.ok)
  refine ⟨?_, ?_, ?_, ?_, ?_⟩
  · rw [ep]; exact good3 gSunOS g1 gv
  · rw [ea]; exact good3 gSunOS g1 gv
  · rw [ea, ep]; exact a
  · rw [ea]; exact a
  · refine ⟨_, _, _, ep, ?_⟩
    rw [if_neg (fun q => num_not_unk q.2), ea, ep]
    show AOk [blankOf t_SunOS, blankOf (numS n ++ tl), blankOf ver] [blankOf t_SunOS, blankOf (numS n ++ tl), blankOf ver]
    rw [blank_Sun, blank_num]
    exact aok (alias_small hb) (relOk_num hn t1) (ok3 gSunOS.ok g1.ok gv.okB)

theorem unk_ch : ∀ c ∈ t_unknown.cps.toList, Fch c := gunknown.ch
theorem sun_unk {ver : Str} (gv : GoodS ver) : MAll ⟨t_SunOS, none, t_unknown, ver⟩ := by
  have ep : plainF ⟨t_SunOS, none, t_unknown, ver⟩ = [t_SunOS, t_unknown, ver] := rfl
  have ea : aliasF ⟨t_SunOS, none, t_unknown, ver⟩ = [t_Solaris, t_unknown, ver] := by
    unfold aliasF
    rw [if_pos rfl]
  have ne : t_Solaris ≠ t_SunOS := by decide
  have wS : winOf t_Solaris = t_Solaris := if_neg (by decide)
  refine ⟨?_, ?_, ?_, ?_, ?_⟩
  · rw [ep]; exact good3 gSunOS gunknown gv
  · rw [ea]; exact good3 gSolaris gunknown gv
  · rw [ea, ep]; exact aok (alias_word (d := 117) unk_ch (by decide) (by decide) rfl (by decide)) relOk_unknown (ok3 gSolaris.ok gunknown.ok gv.ok)
  · rw [ea]; exact aok ((alias_other ne).trans (by rw [wS])) relOk_unknown (ok3 gSolaris.ok gunknown.ok gv.ok)
  · refine ⟨_, _, _, ep, ?_⟩
    rw [if_pos ⟨rfl, rfl⟩, ep]
    show AOk [blankOf t_SunOS, blankOf t_unknown, blankOf ver] [blankOf t_SunOS, blankOf t_unknown, blankOf ver]
    rw [blank_Sun, blank_unk]
    exact aok alias_empty relOk_empty (ok3 gSunOS.ok ok_empty gv.okB)

theorem sun_v {n : Nat} {ver : Str} (hn : n < 1000) (gv : GoodS ver) : MAll ⟨t_SunOS, none, t_v ++ numS n, ver⟩ := by
  have ep : plainF ⟨t_SunOS, none, t_v ++ numS n, ver⟩ = [t_SunOS, t_v ++ numS n, ver] := rfl
  have ea : aliasF ⟨t_SunOS, none, t_v ++ numS n, ver⟩ = [t_Solaris, t_v ++ numS n, ver] := by
    unfold aliasF
    rw [if_pos rfl]
  have ne : t_Solaris ≠ t_SunOS := by decide
  have wS : winOf t_Solaris = t_Solaris := if_neg (by decide)
  have h46 : 46 ∉ (t_v ++ numS n).cps.toList := by
    rw [v_list]
    simp only [List.mem_cons, not_or]
    exact ⟨by decide, no46⟩
  have hl := v_len hn
  have eS : ∀ v, aliasS t_SunOS (t_v ++ numS n) v = [t_Solaris, t_v ++ numS n, v] := fun v => alias_word (d := 118) v_ch h46 (by lia) (v_list n) (by decide)
  have g1 : GoodS (t_v ++ numS n) := good_v hn
  refine ⟨?_, ?_, ?_, ?_, ?_⟩
  · rw [ep]; exact good3 gSunOS g1 gv
  · rw [ea]; exact good3 gSolaris g1 gv
  · rw [ea, ep]; exact aok (eS ver) (relOk_v hn) (ok3 gSolaris.ok g1.ok gv.ok)
  · rw [ea]; exact aok ((alias_other ne).trans (by rw [wS])) (relOk_v hn) (ok3 gSolaris.ok g1.ok gv.ok)
  · refine ⟨_, _, _, ep, ?_⟩
    rw [if_neg (fun q => v_not_unk q.2), ea, ep]
    show AOk [blankOf t_SunOS, blankOf (t_v ++ numS n), blankOf ver] [blankOf t_Solaris, blankOf (t_v ++ numS n), blankOf ver]
    rw [blank_Sun, blank_Sol, blank_v]
    exact aok (eS _) (relOk_v hn) (ok3 gSolaris.ok g1.ok gv.okB)

theorem MForm.all {m : Mach} (f : MForm m) : MAll m := by
  by_cases h : m.sys = t_SunOS
  · obtain ⟨sys, num, tail, ver⟩ := m
    have h : sys = t_SunOS := h
    subst h
    have gv : GoodS ver := f.ver
    rcases f.rel with ⟨n, hn, e, ht⟩ | ⟨e, ht⟩
    · have e : num = some n := e
      subst e
      obtain ⟨⟨rest, t1⟩, t2, t3⟩ := tail_ok ht
      cases hb : bigD n with
      | true => exact sun_big hn t1 t2 t3 gv hb
      | false => exact sun_small hn t1 t2 t3 gv hb
    · have e : num = none := e
      subst e
      rcases ht with ht | ⟨n, hn, ht⟩
      · have ht : tail = t_unknown := ht
        subst ht
        exact sun_unk gv
      · have ht : tail = t_v ++ numS n := ht
        subst ht
        exact sun_v hn gv
  · exact f.other h
end Mine
end
section
namespace Mine
open PySem PySem.W PySem.W.X PyProof.Rows PySem.Calls
theorem nOf_lt (x : Int) : nOf x < 1000 := by
  have := fmod_range (a := x.fdiv 60) (b := 1000) (by decide)
  unfold nOf; lia
theorem kOf_lt (x : Int) : kOf x < 4 := by
  have := fmod_range (a := x.fdiv 5) (b := 4) (by decide)
  unfold kOf; lia
theorem form_of (x : Int) : MForm (machOf x) := by
  have hn := nOf_lt x
  have hk := kOf_lt x
  refine ⟨?_, ?_, ?_⟩
  · have h := fmod_range (a := x) (b := 5) (by decide)
    have h5 : (x.fmod 5).toNat < 5 := by lia
    show sysOf x = _ ∨ sysOf x = _ ∨ sysOf x = _ ∨ sysOf x = _ ∨ sysOf x = _
    unfold sysOf
    generalize (x.fmod 5).toNat = k at h5
    rcases k with _ | _ | _ | _ | _ | k
    · exact .inl rfl
    · exact .inr (.inl rfl)
    · exact .inr (.inr (.inl rfl))
    · exact .inr (.inr (.inr (.inr rfl)))
    · exact .inl rfl
    · lia
  · have h := fmod_range (a := x.fdiv 20) (b := 3) (by decide)
    have h3 : ((x.fdiv 20).fmod 3).toNat < 3 := by lia
    show GoodS (verOf x)
    unfold verOf
    generalize ((x.fdiv 20).fmod 3).toNat = k at h3
    rcases k with _ | _ | _ | k
    · exact gunknown
    · exact gxx
    · exact gi386
    · lia
  · show (∃ n, n < 1000 ∧ numOf x = some n ∧ (tailOf x = t_empty ∨ tailOf x = t_d10 ∨ tailOf x = t_d8)) ∨ (numOf x = none ∧ (tailOf x = t_unknown ∨ ∃ n, n < 1000 ∧ tailOf x = t_v ++ numS n))
    unfold numOf tailOf
    generalize kOf x = k at hk
    rcases k with _ | _ | _ | _ | k
    · exact .inl ⟨nOf x, hn, rfl, .inl rfl⟩
    · exact .inl ⟨nOf x, hn, rfl, .inr (.inl rfl)⟩
    · exact .inr ⟨rfl, .inl rfl⟩
    · exact .inr ⟨rfl, .inr ⟨nOf x, hn, rfl⟩⟩
    · lia
theorem form_all (ns : List Int) : ∀ m ∈ machsOf ns, MForm m := by
  intro m hm
  rcases List.mem_append.mp hm with hm | hm
  · unfold base3 at hm
    simp only [List.mem_cons, List.not_mem_nil, or_false] at hm
    rcases hm with rfl | rfl | rfl
    · exact ⟨.inl rfl, gunknown, .inl ⟨5, by decide, rfl, .inr (.inr rfl)⟩⟩
    · exact ⟨.inr (.inr (.inr (.inl rfl))), gv1, .inr ⟨rfl, .inl rfl⟩⟩
    · exact ⟨.inl rfl, gsun4u, .inr ⟨rfl, .inl rfl⟩⟩
  · obtain ⟨x, _, rfl⟩ := List.mem_map.mp hm
    exact form_of x
theorem machs_len (ns : List Int) : (machsOf ns).length ≤ 8 := by
  unfold machsOf base3
  rw [List.length_append, List.length_map, List.length_take]
  simp only [List.length_cons, List.length_nil]
  lia
theorem machs_ne (ns : List Int) : machsOf ns ≠ [] := by
  unfold machsOf base3
  simp

noncomputable def tOf (fs : List Str) : T3 := ((fs.getD 0 t_empty).cps.toList, (fs.getD 1 t_empty).cps.toList, (fs.getD 2 t_empty).cps.toList)
theorem tell_list {W : Int} (hW : W < 1000) {L : List (List Str)} (h0 : L ≠ []) (hn : L.length ≤ 20) (h : ∀ fs ∈ L, ∃ x y z, fs = [x, y, z] ∧ GoodS x ∧ GoodS y ∧ GoodS z) : TellOk W L := by
  have e : (L.map tOf).map fs3 = L := by
    rw [List.map_map]
    conv => rhs; rw [← List.map_id L]
    refine List.map_congr_left fun fs hfs => ?_
    obtain ⟨x, y, z, rfl, _⟩ := h fs hfs
    rfl
  have g : ∀ t ∈ L.map tOf, Good3 t := by
    intro t ht
    obtain ⟨fs, hfs, rfl⟩ := List.mem_map.mp ht
    obtain ⟨x, y, z, rfl, a, b, d⟩ := h fs hfs
    exact ⟨a, b, d⟩
  have hl : (L.map tOf).length ≤ 20 := by rw [List.length_map]; exact hn
  have hz : L.map tOf ≠ [] := by simpa using h0
  rw [← e]
  generalize L.map tOf = ts at g hl hz
  cases ts with
  | nil => exact absurd rfl hz
  | cons t r =>
    rw [List.length_cons] at hl
    exact tell_ok hW (by lia) g

theorem get_two {ms : List Mach} {f g : Mach → List Str} {j : Nat} {a b : List Str} (ha : (ms.map f)[j]? = some a) (hb : (ms.map g)[j]? = some b) : ∃ m ∈ ms, a = f m ∧ b = g m := by
  rw [List.getElem?_map] at ha hb
  cases e : ms[j]? with
  | none => rw [e] at ha; cases ha
  | some m =>
    rw [e] at ha hb
    exact ⟨m, List.mem_of_getElem? e, (Option.some.inj ha).symm, (Option.some.inj hb).symm⟩

theorem lawOk (ns : List Int) : LawOk (machsOf ns) := by
  have hf := form_all ns
  have hl := machs_len ns
  have hne := machs_ne ns
  generalize machsOf ns = ms at hf hl hne
  have hp : ∀ fs ∈ ms.map plainF, ∃ x y z, fs = [x, y, z] ∧ GoodS x ∧ GoodS y ∧ GoodS z := by
    intro fs hfs
    obtain ⟨m, hm, rfl⟩ := List.mem_map.mp hfs
    exact (hf m hm).all.pl
  have ha : ∀ fs ∈ ms.map aliasF, ∃ x y z, fs = [x, y, z] ∧ GoodS x ∧ GoodS y ∧ GoodS z := by
    intro fs hfs
    obtain ⟨m, hm, rfl⟩ := List.mem_map.mp hfs
    exact (hf m hm).all.al
  have okb : ∀ {fs : List Str}, (∃ x y z, fs = [x, y, z] ∧ GoodS x ∧ GoodS y ∧ GoodS z) → ∀ y ∈ fs, PyData.strOk (blankOf y) = true := by
    rintro fs ⟨x, y, z, rfl, a, b, d⟩ f hfm
    simp only [List.mem_cons, List.not_mem_nil, or_false] at hfm
    rcases hfm with rfl | rfl | rfl
    · exact GoodS.okB a
    · exact GoodS.okB b
    · exact GoodS.okB d
  refine { len := ?_, mach := ?_, fP := ?_, fN := ?_, okP := ?_, okN := ?_, al := ?_, tP := ?_, tN := ?_, la := ?_ }
  · lia
  · intro m hm
    rcases (hf m hm).rel with ⟨n, hn, e, ht⟩ | ⟨e, ht⟩
    · refine ⟨fun k hk => ?_, ?_⟩
      · have : k = n := by rw [e] at hk; exact (Option.some.inj hk).symm
        subst this
        have := numS_len hn
        exact ⟨by lia, by lia⟩
      · have := (tail_ok ht).2.1
        rw [Array.length_toList] at this
        exact Nat.le_trans this (by decide)
    · refine ⟨fun k hk => ?_, ?_⟩
      · rw [e] at hk; cases hk
      · rcases ht with ht | ⟨n, hn, ht⟩
        · rw [ht]; decide
        · rw [ht]; exact Nat.le_trans (v_len hn) (by decide)
  · intro fs hfs
    obtain ⟨x, y, z, rfl, _⟩ := hp fs hfs
    simp
  · intro fs hfs
    obtain ⟨x, y, z, rfl, _⟩ := ha fs hfs
    simp
  · exact fun fs hfs => okb (hp fs hfs)
  · exact fun fs hfs => okb (ha fs hfs)
  · intro j fs due h1 h2
    by_cases hj : j < ms.length
    · rw [List.getElem?_append_left (by rw [List.length_map]; exact hj)] at h1 h2
      obtain ⟨m, hm, rfl, rfl⟩ := get_two h1 h2
      exact (hf m hm).all.a1
    · have hj := Nat.le_of_not_lt hj
      rw [List.getElem?_append_right (by rw [List.length_map]; exact hj), List.length_map] at h1 h2
      obtain ⟨m, hm, rfl, rfl⟩ := get_two h1 h2
      exact (hf m hm).all.a2
  · exact fun W _ hW => tell_list hW (by simpa using hne) (by rw [List.length_map]; lia) hp
  · exact fun W _ hW => tell_list hW (by simpa using hne) (by rw [List.length_map]; lia) ha
  · intro j fs due h1 h2
    obtain ⟨m, hm, rfl, rfl⟩ := get_two h1 h2
    exact (hf m hm).all.a3
end Mine
end
theorem PySem.Challenge.cw_ny0238_01_holds : PySem.Challenge.rw_ny0238_01.Holds :=
  Mine.joined Mine.lawOk
