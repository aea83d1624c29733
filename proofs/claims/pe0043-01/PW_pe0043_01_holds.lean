import PyProof.Rows.All
import Wide.All
import OpenK.AllK
import Wide.FinOn
import PySem.Challenge.RW_pe0043_01
set_option Elab.async false

/-! Hq -/
section
open PySem PySem.W PySem.W.X PyProof.Rows PySem.Calls
open Sem (wp)
set_option Elab.async false
set_option maxRecDepth 100000
set_option maxHeartbeats 1000000
namespace Mine

/-- built-ins that hold a bytearray while they run -/
def badIds : List String := ["bytearray.__contains__", "bytearray.__mod__", "bytearray.__rmod__", "_struct.pack_into.held", "bytearray.find.held"] ++ Builtin.Bytes.decodersThatHold
def bad : Code → Bool
  | .builtin id _ => badIds.contains id
  | _ => false
def nd (l : List (Code × Pos)) : Prop := ∀ q ∈ l, bad q.1 = false

/-- wpAny, but only over stacks on which no such built-in runs -/
def wpS {α : Type} (M : Model) (A : Around) (t : Sem α) (Q : α → Shared → Prop) (E : Value → Shared → Prop) (s : Shared) : Prop :=
  ∀ Γ p, Γ.In A → bad Γ.code = false → nd Γ.below → wp M Γ t (fun a _ s' => Q a s') (fun e _ s' => E e s') p s
theorem wpS_mono {α : Type} {M : Model} {A : Around} {t : Sem α} {Q Q' : α → Shared → Prop} {E E' : Value → Shared → Prop} {s : Shared} (h : wpS M A t Q E s) (hq : ∀ a s', Q a s' → Q' a s') (he : ∀ e s', E e s' → E' e s') :
    wpS M A t Q' E' s := fun Γ p h1 h2 h3 => Sem.wp_mono M Γ t (fun a _ s' x => hq a s' x) (fun e _ s' x => he e s' x) p s (h Γ p h1 h2 h3)
theorem wpS_bind {α β : Type} {M : Model} {A : Around} {m : Sem α} {f : α → Sem β} {Q : β → Shared → Prop} {E : Value → Shared → Prop} {s : Shared} (h : wpS M A m (fun a s' => wpS M A (f a) Q E s') E s) :
    wpS M A (m >>= f) Q E s := fun Γ p h1 h2 h3 => by
  rw [Sem.wp_bind']
  exact Sem.wp_mono M Γ m (fun a p' s' h' => h' Γ p' h1 h2 h3) (fun _ _ _ h' => h') p s (h Γ p h1 h2 h3)
theorem wpS_of {α : Type} {M : Model} {A : Around} {t : Sem α} {Q : α → Shared → Prop} {E : Value → Shared → Prop} {s : Shared} (h : wpAny M A t Q E s) : wpS M A t Q E s := fun Γ p h1 _ _ => h Γ p h1

def Γ₀ : Ctx := ⟨.builtin "claim.caller" {}, none, none, [], none⟩

theorem ends_S {prog : Program} {w : World} {t : Sem Fin} {s : Shared} {R : Result → Shared → Prop} (hreg : s.asleep)
    (h : wpS (model prog w) callerA t (fun fin s' => ∃ f, fin = .done f ∧ (R (.ok f) s' ∧ leftWithCleanup s'.gens = false)) (fun e s' => R (.error e) s' ∧ leftWithCleanup s'.gens = false) s) :
    ∃ n r s' s'', runN (denote table) prog w n s ⟨t, .builtin "claim.caller" {}, default, []⟩ = .halted (outcomeOf r) s' ∧
      schedN (denote table) prog w n (.single s ⟨t, .builtin "claim.caller" {}, default, []⟩) = .halted (outcomeOf r) s' ∧ s'.forget = s''.forget ∧ R r s'' := by
  have h0 := h Γ₀ default caller_in (by decide +kernel) (fun _ hq => nomatch hq)
  obtain ⟨n, r, s₁, s₂, hs, hn, hfo, hR⟩ := wp_halts_full (M := model prog w) (R := R) hreg (Sem.wp_mono _ Γ₀ t (fun fin p' s' h' => by
    obtain ⟨f, rfl, hf⟩ := h'
    exact (hf : (fun r s' => R r s' ∧ leftWithCleanup s'.gens = false) (.ok f) s')) (fun _ _ _ h' => h') default s h0)
  exact ⟨n, r, s₂, s₁, hn, hs, hfo, hR⟩

theorem callFrom_S {c : ClaimW} {tree : List Value → Sem Fin} {w : World} {s : Shared} {free : Addr → Prop} {gens : Prop} {kept : Heap → Prop} (hz : s.asleep) (hgens : s.gens = #[])
    (hspec : ∀ args, c.pre args = true → WData.layableAll args = true → ∀ ord : List DictEntry → List DictEntry, (∀ l, (ord l).Perm l) →
      ∃ vs s₁, layAllW c.records (classAt s.heap) w.params ord args s = some (vs, s₁) ∧
        wpS (model c.prog w) callerA (tree vs) (fun fin s' => ∃ f, fin = .done f ∧ (c.Ends s args vs s₁ (.ok f) s' ∧ s'.os = s.os ∧ AllBare s'.gens ∧ kept s'.heap))
          (fun e s' => c.Ends s args vs s₁ (.error e) s' ∧ s'.os = s.os ∧ AllBare s'.gens ∧ kept s'.heap) s₁) :
    c.CallFrom (fun vs => ⟨tree vs, .builtin "claim.caller" {}, default, []⟩) w free gens kept s := by
  intro args hpre hlay ord hord
  obtain ⟨vs, s₁, hlaid, hcode⟩ := hspec args hpre hlay ord hord
  have hal := layAllW_rest _ _ _ hlaid
  obtain ⟨k, r, s', s'', hrun, hsched, hfo, hcase, hos, hkp⟩ := ends_S (prog := c.prog) (w := w) (t := tree vs) (s := s₁) (R := fun r s' => c.Ends s args vs s₁ r s' ∧ s'.os = s.os ∧ kept s'.heap)
    (Shared.asleep_of_life hal.2.2.2 hz)
    (wpS_mono hcode (fun fin s' h => by
      obtain ⟨f, e, h1, h2, h3, h4⟩ := h
      exact ⟨f, e, ⟨h1, h2, h4⟩, leftWithCleanup_false_of_bare h3⟩) fun e s' h => ⟨⟨h.1, h.2.1, h.2.2.2⟩, leftWithCleanup_false_of_bare h.2.2.1⟩)
  obtain ⟨eh, _, _, eo, _⟩ := Shared.forget_eq hfo
  have hcase := hcase.congr eh
  have hkp : kept s'.heap := by rw [eh]; exact hkp
  rw [← eo] at hos
  have hlife : s'.heap.life = s.heap.life := (runN_life _ _ _ hrun).trans hal.2.2.2
  refine ⟨vs, s₁, hlaid, k, _, s', hsched, ?_, (fun _ i x hx => by rw [hgens] at hx; simp at hx), hkp, by rw [hlife], Shared.rest_eq hos⟩
  rcases hcase with ⟨v, rfl, d1, d2, d3, d4, d5⟩ | ⟨e, ob, cls, rfl, d1, d2, d3, d4, d5⟩
  · exact .inl ⟨v, rfl, d1, d2, d3, fun b o y _ => d4 b o y, d5⟩
  · exact .inr ⟨e, ob, cls, rfl, d1, d2, d3, d4, fun b o y _ => d5 b o y⟩

abbrev WalkS (q : Program) (loose : List Str) (XP : (Str → Option Value) → Heap → Prop) (YP : World → Heap → Prop) (r : RowW) : Prop :=
  ∀ (w : World) (s₀ s₁ : Shared) (mg mb : Str → Option Value), Ground q loose r.records XP w s₀ mg mb s₁.heap → YP w s₁.heap → s₁.gens = #[] →
    ∀ (args : List WData) (vals : List Value) (as : List Addr), r.claim.pre args = true → WData.layableAll args = true → ReadsAllW r.records (classAt s₀.heap) s₁.heap vals args as →
      ∃ f, mg r.name = some f ∧ wpS (model r.prog w) callerA (PySem.call f vals) (fun v s' => GoodWG r.claim (classAt s₀.heap) (ExcName.means s₀.heap) args s₁ (.ok (.ret v)) s') (fun _ _ => False) s₁

/-- what the head looks at besides: two tables of code -/
def obs2 {α : Type} (Yf : Shared → α) (s : Shared) : α × Option Obj × Option Obj := (Yf s, s.heap.get? 70, s.heap.get? 77)
def val2 {α : Type} (Ya : World → α) (w : World) : α × Option Obj × Option Obj := (Ya w, some (tableObj #[]), some (tableObj #[]))
abbrev TabY (h : Heap) : Prop := h.get? 70 = some (tableObj #[]) ∧ h.get? 77 = some (tableObj #[])
/-- what the head is to show, at once -/
abbrev LeftP (p q : Program) (loose : List Str) (Xt : Shared → Bool) {α : Type} (Yf : Shared → α) (Ya : World → α) (N : Nat) : Prop := LeftO p q loose Xt Yf Ya N
/-- the head's theorem, over such stacks alone -/
theorem PySem.W.holds_open {r : OpenRow} {q : Program} {loose : List Str} {Xt : Shared → Bool} {XP : (Str → Option Value) → Heap → Prop} {α : Type} {Yf : Shared → α} {Ya : World → α} {YP : World → Heap → Prop} {d : DefRec} {kwd : List (Str × Expr)} {N : Nat}
    (left : LeftP r.prog q loose Xt (obs2 Yf) (val2 Ya) N) (hY : ∀ w s, Yf s = Ya w → YP w s.heap) (hYk : ∀ w h h', YP w h → (∀ b o, h.get? b = some o → h'.get? b = some o) → YP w h')
    (hX : ∀ s, Xt s = true → XP (s.heap.nsMap mainGlobals) s.heap) (hXk : ∀ mg h h', XP mg h → (∀ b o, h.get? b = some o → h'.get? b = some o) → XP mg h')
    (hdef : defOf q r.name = some (d, kwd)) (hp : r.prog.theDef r.name = some (d.params, d.body, d.scope)) (hk : kwWritten? d.params.kwonlyargs d.params.kw_defaults = some kwd) (hRf : ∀ s, Xt s = true → RecFacts r.records s.heap) (hwr : (!r.writes || r.records.isEmpty) = true)
    (k1 : r.wellSaid = true) (ok : (chainsOk q && opensWell r.prog && (frees r.toRowW && r.within.isEmpty)) = true) (hb : r.prog.bare) (hw : r.toRowW.promised)
    (call : WalkS q loose XP (fun w h => YP w h ∧ TabY h) r.toRowW) : r.Holds := by
  obtain ⟨ok, k5⟩ := Bool.and_eq_true_iff.mp ok
  obtain ⟨hch, o1⟩ := Bool.and_eq_true_iff.mp ok
  obtain ⟨k5, k6⟩ := Bool.and_eq_true_iff.mp k5
  obtain ⟨hsame, hu, ha, hap, hm⟩ := frees_parts k5
  refine ⟨k1, hw, ⟨hb, o1, by show r.toRowW.makers.map _ = []; rw [hm]; rfl⟩, hw.witness, fun w => ⟨(left.behind hX hch w).1, fun s' hs' => ?_⟩⟩
  obtain ⟨s₀, hf, hg0, s, hT, hz, hgens, hg, G00, y⟩ := (left.behind (XP := fun mg h => XP mg h ∧ RecFacts r.records h) (fun s hs => ⟨hX s hs, hRf s hs⟩) hch w).2 s' hs'
  have G0 : Ground q loose [] XP w s (s.heap.nsMap mainGlobals) (s.heap.nsMap builtinsNs) s.heap := ⟨G00.T, G00.B, G00.D, G00.TE, G00.TD, G00.W, G00.X.1, G00.cls, G00.has, G00.apart, G00.once, G00.K⟩
  have RF := G00.X.2
  have hT' := hT
  refine ⟨s₀, hf, hg0, s, hT, fun n hn => ?_, RF.1, RF.2.1, ?_⟩
  · obtain rfl : n = r.name := by split at hn <;> simp_all
    exact pinned_of_view hg G0 hdef hp hk
  have hgens : s.gens = #[] := Array.eq_empty_of_size_eq_zero (beq_iff_eq.mp hgens)
  have G : Ground q loose r.records XP w s _ _ s.heap := RF.ground G0
  refine callFrom_S (c := r.toRowW.claim) hz hgens fun args hpre hlay ord hord => ?_
  obtain ⟨⟨vs, s₁⟩, hlaid⟩ := Option.isSome_iff_exists.mp (layAllW_isSome (P := w.params) (ord := ord) G.has args r.args s (pre_splitW hpre).1)
  have keeps := layAllW_keeps _ _ _ hlaid
  have hal := layAllW_rest _ _ _ hlaid
  obtain ⟨as, hrd, hin, hold⟩ := reads_layAllW hord _ _ _ hlaid hlay s₁.heap (fun _ _ e => e)
  have L : Laid r.records w s s₁ args vs as := ⟨⟨ord, hord, hlaid⟩, hrd, hin, hold, keeps, hal.1.trans hgens, hal.2.2.1⟩
  have G₁ := G.keeps hXk keeps
  obtain ⟨y1, y2⟩ := Prod.mk.inj y
  obtain ⟨y2, y3⟩ := Prod.mk.inj y2
  obtain ⟨f, hf, h⟩ := call w s s₁ _ _ G₁ ⟨hYk _ _ _ (hY w s y1) keeps, keeps _ _ y2, keeps _ _ y3⟩ L.gens args vs as hpre hlay hrd
  have hi := ident_freeW hu ha hap
  have hwi : r.toRowW.claim.within = [] := List.isEmpty_iff.mp k6
  refine ⟨vs, s₁, hlaid, wpS_bind (wpS_of (wpAny_nsGet G₁.T.g ?_))⟩
  rw [show (s.heap.nsMap mainGlobals) r.name = some f from hf]
  exact wpS_bind (wpS_mono h (fun v s' g => wpS_of (wpAny_pure ⟨_, rfl, have z := g.laid (c := r.toRowW.claim) hsame hwi hi L; ⟨z.1, z.2.1, z.2.2, fun q => ⟨namesKept_of hT' hg _ keeps g.2.1.old, noTable hwr q⟩⟩⟩)) fun _ _ x => x.elim)

open_top hd for PySem.Challenge.rw_pe0043_01
end Mine
end

/-! Co -/
section
open PySem PySem.W PySem.W.X PyProof.Rows PySem.Calls
set_option Elab.async false
set_option maxRecDepth 100000
set_option maxHeartbeats 1000000
namespace Mine

abbrev pr : Program := PySem.Challenge.rw_pe0043_01.row.prog
/-- the top's objects, but the two code tables that a call may grow -/
noncomputable def KF (P : Params) : Frag := (hd.heap_39 P).filter fun p => !(Nat.beq p.1 70 || Nat.beq p.1 77)

theorem lookup_filter (q : Addr → Bool) : ∀ (l : Frag) (a : Addr) (o : Obj), (l.filter fun p => q p.1).lookup a = some o → l.lookup a = some o ∧ q a = true
  | [], _, _, h => by cases h
  | (b, x) :: l, a, o, h => by
    rw [List.filter_cons] at h
    by_cases hb : q b = true
    · simp only [hb, if_true] at h
      rw [List.lookup_cons] at h ⊢
      by_cases e : (a == b) = true
      · rw [e] at h ⊢
        rw [beq_iff_eq] at e; subst e
        exact ⟨h, hb⟩
      · simp only [Bool.not_eq_true] at e
        rw [e] at h ⊢
        exact lookup_filter q l a o h
    · simp only [hb, Bool.false_eq_true, if_false] at h
      obtain ⟨h1, h2⟩ := lookup_filter q l a o h
      refine ⟨?_, h2⟩
      rw [List.lookup_cons]
      have e : (a == b) = false := by
        rw [beq_eq_false_iff_ne]; rintro rfl; exact hb h2
      rw [e]; exact h1

theorem KF_of {P : Params} {a : Addr} {o : Obj} (h : (KF P).lookup a = some o) : (hd.heap_39 P).lookup a = some o ∧ a ≠ 70 ∧ a ≠ 77 := by
  obtain ⟨h1, h2⟩ := lookup_filter (fun a => !(Nat.beq a 70 || Nat.beq a 77)) _ _ _ h
  refine ⟨h1, ?_, ?_⟩ <;> rintro rfl <;> cases h2

theorem KF_all (P : Params) : ((hd.heap_39 P).all fun p => Nat.blt p.1 135) = true := by kernel_rfl
theorem KF_lt {P : Params} {a : Addr} {o : Obj} (h : (KF P).lookup a = some o) : a < 135 := by
  have h1 := (KF_of h).1
  have h2 := KF_all P
  have : ∀ (l : Frag), (l.all fun p => Nat.blt p.1 135) = true → l.lookup a = some o → a < 135 := by
    intro l
    induction l with
    | nil => intro _ h; cases h
    | cons p l ih =>
      intro ha hl
      rw [List.all_cons, Bool.and_eq_true] at ha
      rw [List.lookup_cons] at hl
      by_cases e : (a == p.1) = true
      · rw [beq_iff_eq] at e; subst e
        exact Nat.le_of_ble_eq_true ha.1
      · simp only [Bool.not_eq_true] at e
        rw [e] at hl
        exact ih ha.2 hl
  exact this _ h2 h1

/-- code tables -/
def Tab (P : Addr) (h : Heap) : Prop := ∃ ps, h.get? P = some (tableObj ps) ∧ TriplesOk ps.toList
def Tbs (h : Heap) : Prop := Tab 70 h ∧ Tab 77 h
theorem Tbs.keeps {h h' : Heap} (t : Tbs h) (h7 : ∀ o, h.get? 70 = some o → h'.get? 70 = some o) (h8 : ∀ o, h.get? 77 = some o → h'.get? 77 = some o) : Tbs h' := by
  obtain ⟨⟨p, e, r⟩, ⟨q, f, z⟩⟩ := t
  exact ⟨⟨p, h7 _ e, r⟩, ⟨q, h8 _ f, z⟩⟩
theorem Tbs.lt {h : Heap} (t : Tbs h) : 70 < h.objs.size ∧ 77 < h.objs.size := by
  obtain ⟨⟨p, e, r⟩, ⟨q, f, z⟩⟩ := t
  exact ⟨Heap.lt_size e, Heap.lt_size f⟩

structure Cx (w : World) (h : Heap) : Prop where
  k : (KF w.params).In h
  b : ∃ mb, h.Ns builtinsNs mb ∧ ∀ x : Str, x ≠ "__name__" → mb x = bootBuiltins x
  m : ∃ o, h.get? 4 = some o ∧ o.cls = .type "module" ∧ o.dict = some builtinsNs ∧ o.data = .plain
theorem Cx.of {w : World} {h h' : Heap} (c : Cx w h) (k : ∀ b o, b < 135 → b ≠ 70 → b ≠ 77 → h.get? b = some o → h'.get? b = some o) : Cx w h' := by
  refine ⟨fun a o e => ?_, ?_, ?_⟩
  · obtain ⟨_, h7, h8⟩ := KF_of e
    exact k a o (KF_lt e) h7 h8 (c.k a o e)
  · obtain ⟨mb, n, e⟩ := c.b
    exact ⟨mb, n.at' fun o q => k _ o (by decide) (by decide) (by decide) q, e⟩
  · obtain ⟨o, e, r⟩ := c.m
    exact ⟨o, k 4 o (by decide) (by decide) (by decide) e, r⟩
theorem Cx.keeps' {w : World} {h h' : Heap} (c : Cx w h) (k : ∀ b o, h.get? b = some o → h'.get? b = some o) : Cx w h' := c.of fun b o _ _ _ e => k b o e

/-- everything of s stands in s', but W and the two tables; -/
structure Go (W : List Addr) (s s' : Shared) : Prop where
  keep : ∀ a o, a ∉ W → a ≠ 70 → a ≠ 77 → s.heap.get? a = some o → s'.heap.get? a = some o
  gens : AllBare s.gens → AllBare s'.gens
  dr : s'.drawn = s.drawn
  os : s'.os = s.os
  tab : Tbs s.heap → Tbs s'.heap

theorem Go.refl (W : List Addr) (s : Shared) : Go W s s := ⟨fun _ _ _ _ _ e => e, id, rfl, rfl, id⟩
theorem Go.trans {W : List Addr} {s s' s'' : Shared} (x : Go W s s') (y : Go W s' s'') : Go W s s'' :=
  ⟨fun a o h h7 h8 e => y.keep a o h h7 h8 (x.keep a o h h7 h8 e), fun g => y.gens (x.gens g), y.dr.trans x.dr, y.os.trans x.os, fun t => y.tab (x.tab t)⟩
theorem Go.mono {W W' : List Addr} {s s' : Shared} (x : Go W s s') (h : ∀ a ∈ W, a ∈ W') : Go W' s s' :=
  ⟨fun a o hn h7 h8 e => x.keep a o (fun hm => hn (h a hm)) h7 h8 e, x.gens, x.dr, x.os, x.tab⟩
theorem Go.of_keeps {W : List Addr} {s : Shared} {h' : Heap} {tk : Nat} (hk : ∀ b o, s.heap.get? b = some o → h'.get? b = some o) : Go W s { s with heap := h', toks := tk } :=
  ⟨fun a o _ _ _ e => hk a o e, id, rfl, rfl, fun t => t.keeps (fun o e => hk _ o e) fun o e => hk _ o e⟩
theorem Go.tok {W : List Addr} {s s' : Shared} (x : Go W s s') (tk : Nat) : Go W s { s' with toks := tk } := ⟨x.keep, x.gens, x.dr, x.os, x.tab⟩
theorem Go.cx {W : List Addr} {s s' : Shared} {w : World} (x : Go W s s') (hW : ∀ a ∈ W, 135 ≤ a) (c : Cx w s.heap) : Cx w s'.heap := by
  exact c.of fun b o lt h7 h8 e => x.keep b o (fun hm => absurd lt (Nat.not_lt.mpr (hW b hm))) h7 h8 e

end Mine
end

/-! Ac -/
section
open PySem PySem.W PySem.W.X PyProof.Rows PySem.Calls
set_option Elab.async false
set_option maxRecDepth 100000
set_option maxHeartbeats 1000000
namespace Mine

/-- the dict of an _Accumulator -/
def AccD (o : Obj) : Prop := ∃ hh k0 k1, o = ⟨.type "dict", none, .dict #[⟨hh, .str "_initial_size" k0, .int 0 k1⟩] 1, #[]⟩
structure Acc (h : Heap) (x d : Addr) (xs : Array Value) : Prop where
  ob : ∃ n, h.get? x = some ⟨.ref 108, some d, .seq xs n, #[]⟩
  di : ∃ o, h.get? d = some o ∧ AccD o
  lo : 135 ≤ x ∧ 135 ≤ d

section
variable {w : World} {A : Around} {E : Value → Shared → Prop} {s : Shared} {x d : Addr} {xs : Array Value} {name : Str}

theorem f_ga (P : Params) : findIn (KF P) (.ref 108) "__getattribute__" = some (some (.builtin "list.__getattribute__")) := by kernel_rfl
theorem f_gattr (P : Params) : findIn (KF P) (.ref 108) "__getattr__" = some none := by kernel_rfl
theorem canon_ga : (Manifest.canonical "list.__getattribute__" != "object.__getattribute__") = false := by decide +kernel

theorem AccD.no {o : Obj} (D : AccD o) (hn : (Str.ofString "_initial_size" == name) = false) : lookIn name o = some none := by
  obtain ⟨hh, k0, k1, rfl⟩ := D
  unfold lookIn
  simp [Value.isStr, hn, DictEntry.refKey]

theorem acc_type {M : Model} {h : Heap} (a : Acc h x d xs) : Looks M h (typeOf (.ref x)) (.ref 108) := by
  obtain ⟨n, ho⟩ := a.ob
  exact (Looks.ld ho).andThen .now

theorem acc_method {f : Value} {pl : Sem Bool} {Q : Value × List Value → Shared → Prop} (c : Cx w s.heap) (a : Acc s.heap x d xs) (hf : findIn (KF w.params) (.ref 108) name = some (some f))
    (ht : typeIn (KF w.params) f = some (.type "function") ∨ typeIn (KF w.params) f = some (.type "method_descriptor")) (hn : (Str.ofString "_initial_size" == name) = false) (h : Q (f, [.ref x]) s) :
    wpAny (model pr w) A (getMethod (.ref x) name pl) Q E s := by
  have X := c.k
  have hcan := canon_ga
  have aT := acc_type (M := model pr w) a
  obtain ⟨n, ho⟩ := a.ob
  obtain ⟨od, hd, D⟩ := a.di
  have hl := D.no hn
  unfold getMethod specialOf
  refine wpAny_bind (wpAny_bind (aT.here ((looks_findIn X (f_ga _)).here ?_)))
  dsimp only
  rw [hcan, if_neg (by decide)]
  refine wpAny_bind (wpAny_bind (aT.here ((looks_findIn X (f_gattr _)).here ?_)))
  rcases ht with ht | ht
  all_goals
    refine wpAny_bind (wpAny_bind (aT.here ((looks_findIn X hf).here (wpAny_bind ((looks_typeIn X ht).here ?_)))))
    rw [if_neg (by decide +kernel)]
    refine wpAny_bind (wpAny_loadPart ho ?_)
    dsimp only
    refine wpAny_bind (wpAny_bind (wpAny_loadPart hd ?_))
    rw [nsLook_of hl]
    refine wpAny_pure ?_
    exact wpAny_bind (wpAny_rule (wpAny_pure h))
end
end Mine
end

/-! Ac2 -/
section
open PySem PySem.W PySem.W.X PyProof.Rows PySem.Calls
set_option Elab.async false
set_option maxRecDepth 100000
set_option maxHeartbeats 1000000
namespace Mine
section
variable {w : World} {A : Around} {E : Value → Shared → Prop} {s : Shared} {x d : Addr} {xs : Array Value} {name : Str}

theorem m_list (P : Params) : mroIn (KF P) 108 (.type "list") = some true := by kernel_rfl

theorem acc_check {M : Model} (hM : M = model pr w) {id n : String} {rest : List Value} {Q : Unit → Shared → Prop} (c : Cx w s.heap) (a : Acc s.heap x d xs) (hsplit : splitId id = some ("list", n))
    (hkind : builtinKind id = some .slot ∨ builtinKind id = some .method) (ha : argsOk id ⟨.ref x :: rest, []⟩) (hQ : Q () s) : wpAny M A (checkBuiltinCall id ⟨.ref x :: rest, []⟩) Q E s := by
  subst hM
  have L : Looks (model pr w) s.heap (isInstance (.ref x) (.type "list")) true := (acc_type a).andThen (looks_mroIn c.k (m_list _))
  rcases hkind with h | h <;>
  · simp only [checkBuiltinCall, h, hsplit]
    refine wpAny_bind (L.here ?_)
    simp only [Bool.not_true, Bool.false_eq_true, if_false]
    cases hsig : Manifest.signature? id with
    | none => exact wpAny_pure hQ
    | some sig =>
      simp only [argsOk, hsig] at ha
      have h2 : Bind.checkArgs id sig ⟨.ref x :: rest, []⟩ = pure () := ha
      show wpAny _ A (Bind.checkArgs id sig ⟨.ref x :: rest, []⟩) Q E s
      rw [h2]; exact wpAny_pure hQ

theorem acc_entry {id n : String} {b : Builtin} {rest : List Value} {Q : Value → Shared → Prop} (c : Cx w s.heap) (a : Acc s.heap x d xs) (hsplit : splitId id = some ("list", n))
    (hkind : builtinKind id = some .slot ∨ builtinKind id = some .method) (hp : plainId id = true) (hb : entryFor table id = some b) (ha : argsOk id ⟨.ref x :: rest, []⟩)
    (hc : wpAny (model pr w) A.in1 (b ⟨.ref x :: rest, []⟩) (fun fin s' => ∃ v, fin = .done (.ret v) ∧ Q v s') E s) :
    wpAny (model pr w) A (call (.builtin id) (.ref x :: rest)) Q E s := by
  refine wpAny_call (codeAny_call_builtin hp hb (acc_check rfl c a hsplit hkind ha (wpAny_mono hc (fun fin s' h' => ?_) fun _ _ h' => h')))
  obtain ⟨v, rfl, hv⟩ := h'; exact hv

/-- acc with other items, all else as it was -/
theorem acc_update {f : Array Value → Array Value} {s : Shared} (a : Acc s.heap x d xs) : ∃ h', h' = s.heap.update x (Obj.mapSeq f) ∧ Acc h' x d (f xs) ∧ Heap.SameBut x s.heap h' := by
  obtain ⟨n, ho⟩ := a.ob
  obtain ⟨od, hd, D⟩ := a.di
  refine ⟨_, rfl, ⟨⟨_, Heap.get?_update_self _ ho rfl⟩, ⟨od, ?_, D⟩, a.lo⟩, Heap.SameBut.update ..⟩
  have hne : d ≠ x := by
    rintro rfl
    rw [ho] at hd
    obtain ⟨_, _, _, rfl⟩ := D
    cases hd
  exact ((Heap.SameBut.update ..).2 d hne).trans hd

theorem acc_append {v : Value} {Q : Value → Shared → Prop} (c : Cx w s.heap) (a : Acc s.heap x d xs) (hz : xs.size ≤ 1000)
    (hQ : ∀ h', Acc h' x d (xs.push v) → Heap.SameBut x s.heap h' → Q .none { s with heap := h' }) : wpAny (model pr w) A (call (.builtin "list.append") [.ref x, v]) Q E s := by
  obtain ⟨n, ho⟩ := id a.ob
  obtain ⟨h', e, a', sb⟩ := acc_update (f := (·.push v)) a
  refine acc_entry (n := "append") c a (by decide +kernel) (.inr (by decide +kernel)) (by decide +kernel) entry_list_append (args_list_append _ _) ?_
  show wpAny _ _ (updateSeq x (·.push v) >>= fun _ => ret .none) _ _ s
  refine wpAny_bind (wpAny_updateSeq ho rfl (wpAny_pure ⟨.none, rfl, ?_⟩) (by rw [sizeLine]; (first | lia | omega)) (by rw [sizeLine]; simp; (first | lia | omega)))
  subst e
  exact hQ _ a' sb

theorem seqIndex_last (k : Nat) : seqIndex? (-1) (k + 1) = some k := by
  unfold seqIndex?
  have h1 : ((-1 : Int) < 0) := by decide
  simp only [h1, if_true]
  have e : (-1 : Int) + ((k + 1 : Nat) : Int) = (k : Int) := by (first | lia | omega)
  rw [e]
  simp
  (first | lia | omega)

theorem acc_pop {v : Value} {Q : Value → Shared → Prop} (c : Cx w s.heap) (a : Acc s.heap x d (xs.push v)) (hz : xs.size ≤ 1000)
    (hQ : ∀ h', Acc h' x d xs → Heap.SameBut x s.heap h' → Q v { s with heap := h' }) : wpAny (model pr w) A (call (.builtin "list.pop") [.ref x]) Q E s := by
  obtain ⟨n, ho⟩ := id a.ob
  obtain ⟨h', e, a', sb⟩ := acc_update (f := (·.eraseIdxIfInBounds xs.size)) a
  refine acc_entry (n := "pop") c a (by decide +kernel) (.inr (by decide +kernel)) (by decide +kernel) PySem.F.entry_list_pop (PySem.F.args_list_pop_1 _) ?_
  have er : (xs.push v).eraseIdxIfInBounds xs.size = xs := by
    unfold Array.eraseIdxIfInBounds
    rw [dif_pos (by simp)]
    apply Array.ext'
    simp only [Array.toList_eraseIdx, Array.toList_push]
    rw [List.eraseIdx_append_of_length_le (by simp)]
    simp
  rw [er] at a'
  show wpAny _ _ (do
    let xs ← Builtin.List.listItems (.ref x)
    if xs.isEmpty then rule "list.pop.empty"; raiseError "IndexError" "pop from empty list"
    match (seqIndex? (-1) xs.size).bind fun k => xs[k]?.map (k, ·) with
    | some (k, y) => Builtin.List.listUpdate (.ref x) (·.eraseIdxIfInBounds k); ret y
    | none => rule "list.pop.out-of-range"; raiseError "IndexError" "pop index out of range") _ _ s
  unfold Builtin.List.listItems seqItems?
  refine wpAny_bind (wpAny_bind (wpAny_bind (wpAny_load ho (wpAny_pure (wpAny_pure ?_)))))
  rw [if_neg (by simp)]
  rw [Array.size_push, seqIndex_last, Option.bind_some]
  have g : (xs.push v)[xs.size]? = some v := by simp
  rw [g]
  show wpAny _ _ (updateSeq x (·.eraseIdxIfInBounds xs.size) >>= fun _ => ret v) _ _ s
  refine wpAny_bind (wpAny_updateSeq ho rfl (wpAny_pure ⟨v, rfl, ?_⟩) (by rw [sizeLine]; simp; (first | lia | omega)) (by rw [er, sizeLine]; (first | lia | omega)))
  subst e
  exact hQ _ a' sb
end
end Mine
end

/-! Fn -/
section
open PySem PySem.W PySem.W.X PyProof.Rows PySem.Calls
set_option Elab.async false
set_option maxRecDepth 100000
set_option maxHeartbeats 1000000
namespace Mine

abbrev No : Value → Shared → Prop := fun _ _ => False
abbrev wpN {α : Type} (w : World) (A : Around) (t : Sem α) (Q : α → Shared → Prop) (s : Shared) : Prop := wpAny (model pr w) A t Q No s
theorem wpN.up {α : Type} {w : World} {A : Around} {t : Sem α} {Q : α → Shared → Prop} {E : Value → Shared → Prop} {s : Shared} (h : wpN w A t Q s) : wpAny (model pr w) A t Q E s :=
  wpAny_mono h (fun _ _ x => x) fun _ _ x => x.elim

def topS (i : Nat) : Stmt := (PySem.Challenge.pw_pe0043_01.main.body[i]?).getD (.Pass ⟨0, 0, 0, 0⟩)
def clsB : Stmt → List Stmt
  | .ClassDef _ _ _ b _ _ _ _ _ _ _ => b
  | _ => []
def metS (i : Nat) : Stmt := ((clsB (topS 5))[i]?).getD (.Pass ⟨0, 0, 0, 0⟩)
def fnB : Stmt → List Stmt
  | .FunctionDef _ _ b _ _ _ _ _ _ _ => b
  | _ => []
def fnP : Stmt → Arguments
  | .FunctionDef _ p _ _ _ _ _ _ _ _ => p
  | _ => default
def fnS : Stmt → Scope
  | .FunctionDef _ _ _ _ _ _ s _ _ _ => s
  | _ => default

def fdOf (st : Stmt) (name qual : Str) (cl : List (Str × Addr)) (dV : Value) (pm : Value) (code : Addr) (ct : Value) : FuncData :=
  { name := name, qualname := qual, params := fnP st, body := .stmts (fnB st), scope := fnS st, globals := 3, closure := cl, defaults := dV, kwdefaults := .none, doc := .none, pyModule := pm, annotations := none, code := .ref code, closureTuple := ct, builtins := 0 }
def fnO (fd : FuncData) : Obj := ⟨.type "function", none, .func fd, #[]⟩

def fdBS : FuncData := fdOf (topS 2) "_byteswap" "_byteswap" [] .none (.str "cpy313.wave" 194) 27 .none
def pmH : Value := .str "cpy313.email.header" 207
def fdIN : FuncData := fdOf (metS 0) "__init__" "_Accumulator.__init__" [("__class__", 32)] (.ref 37) pmH 44 (.ref 38)
def fdPU : FuncData := fdOf (metS 1) "push" "_Accumulator.push" [] .none pmH 51 .none
def fdPF : FuncData := fdOf (metS 2) "pop_from" "_Accumulator.pop_from" [] (.ref 53) pmH 59 .none
def fdPO : FuncData := fdOf (metS 3) "pop" "_Accumulator.pop" [("__class__", 32)] .none pmH 67 (.ref 61)
def fdLN : FuncData := fdOf (metS 4) "__len__" "_Accumulator.__len__" [] .none pmH 74 .none
def fdST : FuncData := fdOf (metS 5) "__str__" "_Accumulator.__str__" [] .none pmH 81 .none
def fdPC : FuncData := fdOf (metS 8) "part_count" "_Accumulator.part_count" [("__class__", 32)] .none pmH 104 (.ref 98)
def pmL : Value := .str "law_pe0043_01" 307
def fdLE : FuncData := fdOf (topS 7) "_law_least" "_law_least" [] .none pmL 116 .none
def fdJO : FuncData := fdOf (topS 8) "_law_joined" "_law_joined" [] .none pmL 121 .none
def fdTR : FuncData := fdOf (topS 9) "_law_tree" "_law_tree" [] .none pmL 128 .none
def fdLA : FuncData := fdOf (topS 10) "law" "law" [] .none pmL 133 .none

theorem kBS (P : Params) : (KF P).lookup 28 = some (fnO fdBS) := by kernel_rfl
theorem kIN (P : Params) : (KF P).lookup 45 = some (fnO fdIN) := by kernel_rfl
theorem kPU (P : Params) : (KF P).lookup 52 = some (fnO fdPU) := by kernel_rfl
theorem kPF (P : Params) : (KF P).lookup 60 = some (fnO fdPF) := by kernel_rfl
theorem kPO (P : Params) : (KF P).lookup 68 = some (fnO fdPO) := by kernel_rfl
theorem kLN (P : Params) : (KF P).lookup 75 = some (fnO fdLN) := by kernel_rfl
theorem kST (P : Params) : (KF P).lookup 82 = some (fnO fdST) := by kernel_rfl
theorem kPC (P : Params) : (KF P).lookup 105 = some (fnO fdPC) := by kernel_rfl
theorem kLE (P : Params) : (KF P).lookup 117 = some (fnO fdLE) := by kernel_rfl
theorem kJO (P : Params) : (KF P).lookup 122 = some (fnO fdJO) := by kernel_rfl
theorem kTR (P : Params) : (KF P).lookup 129 = some (fnO fdTR) := by kernel_rfl
theorem kLA (P : Params) : (KF P).lookup 134 = some (fnO fdLA) := by kernel_rfl

theorem Cx.nolimit {w : World} {h : Heap} (c : Cx w h) : h.NoLimit := by
  have e : (KF w.params).lookup 2 = some ⟨.none, none, .dict #[] 0, #[]⟩ := by kernel_rfl
  have := c.k _ _ e
  exact ⟨fun _ => none, ⟨_, #[], 0, this, rfl, fun e he => by simp at he, fun n => rfl⟩, rfl⟩

section
variable {w : World} {A : Around} {s : Shared}
theorem call_def {f : Addr} {fd : FuncData} {args : List Value} {binds : List (Str × Value)} {st : Stmt} {Q : Value → Shared → Prop} (c : Cx w s.heap) (hf : (KF w.params).lookup f = some (fnO fd)) (hb : fd.body = .stmts (fnB st))
    (hcd : codeIn (KF w.params) fd.code fd.qualname = true) (hroom : A.depth < recursionLimit) (hbind : bindArgs fd ⟨args, []⟩ = pure binds)
    (hcell : (fd.scope.names.all fun x => x.2 != .cell) = true) (hloc : (binds.all fun x => decide (fd.scope.names.lookup x.1 = some .local)) = true) (hsc : (fd.scope.isCoroutine, fd.scope.isGenerator, fd.scope.kind) = (false, false, .function))
    (h : ∀ h₀ : Heap, h₀.Ns s.heap.objs.size (fun x => binds.reverse.lookup x) → (∀ b o, s.heap.get? b = some o → h₀.get? b = some o) →
      wpN w (A.deeper (callEnv fd s.heap.objs.size f)) (execs (fnB st) (callEnv fd s.heap.objs.size f)) (fun fl s' => Q (match fl with | .ret v => v | _ => .none) s') { s with heap := h₀, toks := s.toks + binds.length }) :
    wpN w A (call (.ref f) args) Q s := by
  simp only [Prod.mk.injEq] at hsc
  refine wpAny_call (codeAny_call_def (fd := fd) (body := fnB st) (binds := binds) hroom (c.k _ _ hf) rfl c.nolimit (codeRec_of c.k hcd) hb (BindsTo.of_eq hbind) (fun x hx => ?_) (locs hloc) (fun h₀ hns hk => ?_) hsc.1 hsc.2.1 hsc.2.2)
  · have := List.all_eq_true.mp hcell x hx
    simpa using this
  · exact wpN.up (h h₀ hns hk)
end
end Mine
end

/-! Ex -/
section
open PySem PySem.W PySem.W.X PyProof.Rows PySem.Calls
set_option Elab.async false
set_option maxRecDepth 100000
set_option maxHeartbeats 1000000
namespace Mine
section
variable {w : World} {A : Around} {s : Shared} {env : Env} {pos p : Pos} {x : Str}

theorem ev_loc {m : Str → Option Value} {v : Value} {Q : Value → Shared → Prop} (hk : env.scope.kind = .function) (hl : env.kindOf x = some .local) (hn : s.heap.Ns env.locals m) (hv : m x = some v) (h : Q v s)
    (hd : (x == ("__debug__" : Str)) = false) : wpN w A (eval (.Name x pos) env) Q s := wpAny_Name (wpAny_loadName_local hk hl hn hv h) hd

theorem ev_glob {v : Value} {Q : Value → Shared → Prop} (c : Cx w s.heap) (hk : env.scope.kind = .function) (hx : env.kindOf x = some .globalImplicit) (hg : env.globals = 3) (e1 : nsIn (KF w.params) 3 x = some (some v)) (h : Q v s)
    (hd : (x == ("__debug__" : Str)) = false) : wpN w A (eval (.Name x pos) env) Q s := by
  refine Name_function_global hk hx ?_ hd
  unfold loadGlobal
  rw [hg]
  exact wpAny_bind ((looks_nsIn c.k e1).here (wpAny_pure h))
theorem ev_bi {v : Value} {Q : Value → Shared → Prop} (c : Cx w s.heap) (hk : env.scope.kind = .function) (hx : env.kindOf x = some .globalImplicit) (hg : env.globals = 3) (hb : env.builtins = 0) (e1 : nsIn (KF w.params) 3 x = some none)
    (e2 : bootBuiltins x = some v) (e3 : x ≠ "__name__") (h : Q v s) (hd : (x == ("__debug__" : Str)) = false) : wpN w A (eval (.Name x pos) env) Q s := by
  refine Name_function_global hk hx ?_ hd
  unfold loadGlobal
  rw [hg, hb]
  obtain ⟨mb, n, e⟩ := c.b
  exact wpAny_bind ((looks_nsIn c.k e1).here (wpAny_bind (wpAny_nsGet n (by rw [e x e3, e2]; exact wpAny_pure h))))

/-- the names that are looked up -/
def biOk (P : Params) (x : Str) (v : Value) : Prop := nsIn (KF P) 3 x = some none ∧ bootBuiltins x = some v ∧ x ≠ "__name__"

theorem b_len (P : Params) : biOk P "len" (.builtin "len") := ⟨by kernel_rfl, by rfl, by decide⟩
theorem b_sum (P : Params) : biOk P "sum" (.builtin "sum") := ⟨by kernel_rfl, by rfl, by decide⟩
theorem b_min (P : Params) : biOk P "min" (.builtin "min") := ⟨by kernel_rfl, by rfl, by decide⟩
theorem b_max (P : Params) : biOk P "max" (.builtin "max") := ⟨by kernel_rfl, by rfl, by decide⟩
theorem b_chr (P : Params) : biOk P "chr" (.builtin "chr") := ⟨by kernel_rfl, by rfl, by decide⟩
theorem b_isinstance (P : Params) : biOk P "isinstance" (.builtin "isinstance") := ⟨by kernel_rfl, by rfl, by decide⟩
theorem b_range (P : Params) : biOk P "range" (.type "range") := ⟨by kernel_rfl, by rfl, by decide⟩
theorem b_bytes (P : Params) : biOk P "bytes" (.type "bytes") := ⟨by kernel_rfl, by rfl, by decide⟩
theorem b_bytearray (P : Params) : biOk P "bytearray" (.type "bytearray") := ⟨by kernel_rfl, by rfl, by decide⟩
theorem b_list (P : Params) : biOk P "list" (.type "list") := ⟨by kernel_rfl, by rfl, by decide⟩
theorem b_str (P : Params) : biOk P "str" (.type "str") := ⟨by kernel_rfl, by rfl, by decide⟩
theorem b_enumerate (P : Params) : biOk P "enumerate" (.type "enumerate") := ⟨by kernel_rfl, by rfl, by decide⟩
theorem b_super (P : Params) : biOk P "super" (.type "super") := ⟨by kernel_rfl, by rfl, by decide⟩

/-- a frame of a def of the text -/
structure Fm (env : Env) : Prop where
  kind : env.scope.kind = .function
  glob : env.globals = 3
  bi : env.builtins = 0

theorem ev_biF {v : Value} {Q : Value → Shared → Prop} (f : Fm env) (c : Cx w s.heap) (hx : env.kindOf x = some .globalImplicit) (e : biOk w.params x v) (h : Q v s) (hd : (x == ("__debug__" : Str)) = false) :
    wpN w A (eval (.Name x pos) env) Q s := ev_bi c f.kind hx f.glob f.bi e.1 e.2.1 e.2.2 h hd

/-- f(e1), f(e1, e2), f(e1, e2, e3): a built-in function -/
theorem callB {id : String} {args : List Expr} {Q : Value → Shared → Prop} {e : Expr} {rest : List Expr} (f : Fm env) (c : Cx w s.heap) (hx : env.kindOf x = some .globalImplicit) (eb : biOk w.params x (.builtin id)) (hd : (x == ("__debug__" : Str)) = false)
    (hs : starEach args env = (false, eval e env) :: starEach rest env) (hp : (backTo pos (starEach rest env)).any (·.1) = false)
    (h : wpN w A (spliced (backTo pos (starEach args env))) (fun vs s₁ => wpN w A (call (.builtin id) vs) Q s₁) s) : wpN w A (eval (.Call (.Name x p) args [] pos) env) Q s := by
  refine wpAny_Call_NameR (ev_biF f c hx eb ?_ hd)
  rw [hs] at h ⊢
  refine callWith_builtin (by show (false || (backTo pos (starEach rest env)).any (·.1)) = false; rw [hp]; rfl) (evalArgs_plain (wpAny_mono h (fun vs s₁ h₁ => h₁) fun _ _ z => z))
theorem callT {T : String} {args : List Expr} {Q : Value → Shared → Prop} {e : Expr} {rest : List Expr} (f : Fm env) (c : Cx w s.heap) (hx : env.kindOf x = some .globalImplicit) (eb : biOk w.params x (.type T)) (hd : (x == ("__debug__" : Str)) = false)
    (hs : starEach args env = (false, eval e env) :: starEach rest env) (hp : (backTo pos (starEach rest env)).any (·.1) = false)
    (h : wpN w A (spliced (backTo pos (starEach args env))) (fun vs s₁ => wpN w A (call (.type T) vs) Q s₁) s) : wpN w A (eval (.Call (.Name x p) args [] pos) env) Q s := by
  refine wpAny_Call_NameR (ev_biF f c hx eb ?_ hd)
  rw [hs] at h ⊢
  refine PySem.callWith_type (by show (false || (backTo pos (starEach rest env)).any (·.1)) = false; rw [hp]; rfl) (evalArgs_plain (wpAny_mono h (fun vs s₁ h₁ => h₁) fun _ _ z => z))
theorem callF {fa : Addr} {fd : FuncData} {args : List Expr} {Q : Value → Shared → Prop} {e : Expr} {rest : List Expr} (f : Fm env) (c : Cx w s.heap) (hx : env.kindOf x = some .globalImplicit) (eg : nsIn (KF w.params) 3 x = some (some (.ref fa)))
    (hf : (KF w.params).lookup fa = some (fnO fd)) (hd : (x == ("__debug__" : Str)) = false)
    (hs : starEach args env = (false, eval e env) :: starEach rest env)
    (h : wpN w A (spliced (backTo pos (starEach args env))) (fun vs s₁ => Cx w s₁.heap ∧ wpN w A (call (.ref fa) vs) Q s₁) s) : wpN w A (eval (.Call (.Name x p) args [] pos) env) Q s := by
  refine wpAny_Call_NameR (ev_glob c f.kind hx f.glob eg ?_ hd)
  rw [hs] at h ⊢
  refine callWith_function (o := fnO fd) (fd := fd) (evalArgs_plain (wpAny_mono h (fun vs s₁ h₁ => ⟨⟨h₁.1.k _ _ hf, rfl⟩, h₁.2⟩) fun _ _ z => z))

theorem sp1 {e : Expr} {Q : List Value → Shared → Prop} (hs : backTo pos (starEach [e] env) = [(false, eval e env)]) (h : wpN w A (eval e env) (fun v s₁ => Q [v] s₁) s) : wpN w A (spliced (backTo pos (starEach [e] env))) Q s := by
  rw [hs]; exact spliced_cons (wpAny_mono h (fun v s₁ h₁ => spliced_nil h₁) fun _ _ z => z)
theorem sp2 {e1 e2 : Expr} {Q : List Value → Shared → Prop} (hs : backTo pos (starEach [e1, e2] env) = [(false, eval e1 env), (false, eval e2 env)])
    (h : wpN w A (eval e1 env) (fun v1 s₁ => wpN w A (eval e2 env) (fun v2 s₂ => Q [v1, v2] s₂) s₁) s) : wpN w A (spliced (backTo pos (starEach [e1, e2] env))) Q s := by
  rw [hs]; exact spliced_cons (wpAny_mono h (fun v s₁ h₁ => spliced_cons (wpAny_mono h₁ (fun v s₁ h₁ => spliced_nil h₁) fun _ _ z => z)) fun _ _ z => z)
theorem sp3 {e1 e2 e3 : Expr} {Q : List Value → Shared → Prop} (hs : backTo pos (starEach [e1, e2, e3] env) = [(false, eval e1 env), (false, eval e2 env), (false, eval e3 env)])
    (h : wpN w A (eval e1 env) (fun v1 s₁ => wpN w A (eval e2 env) (fun v2 s₂ => wpN w A (eval e3 env) (fun v3 s₃ => Q [v1, v2, v3] s₃) s₂) s₁) s) : wpN w A (spliced (backTo pos (starEach [e1, e2, e3] env))) Q s := by
  rw [hs]
  exact spliced_cons (wpAny_mono h (fun v s₁ h₁ => spliced_cons (wpAny_mono h₁ (fun v s₁ h₁ => spliced_cons (wpAny_mono h₁ (fun v s₁ h₁ => spliced_nil h₁) fun _ _ z => z)) fun _ _ z => z)) fun _ _ z => z)
end
end Mine
end

/-! Dd -/
section
open PySem PySem.W PySem.W.X PyProof.Rows PySem.Calls
open Sem (wp)
set_option Elab.async false
set_option maxRecDepth 100000
set_option maxHeartbeats 1000000
namespace Mine

abbrev wpD {α : Type} (w : World) (A : Around) (t : Sem α) (Q : α → Shared → Prop) (s : Shared) : Prop := wpS (model pr w) A t Q No s
def codeD (w : World) (A : Around) (c : Code) (Q : Flow → Shared → Prop) (s : Shared) : Prop :=
  ∀ Γ p, Γ.code = c → Γ.Below A → nd Γ.below → wpCode (model pr w) Γ (fun r s' => ∃ f, r = .ok f ∧ Q f s') p s

section
variable {α β : Type} {w : World} {A : Around} {s : Shared} {env : Env}
theorem D.of {t : Sem α} {Q : α → Shared → Prop} (h : wpN w A t Q s) : wpD w A t Q s := fun Γ p hΓ _ _ => h Γ p hΓ
theorem D.mono {t : Sem α} {Q Q' : α → Shared → Prop} (h : wpD w A t Q s) (hq : ∀ a s', Q a s' → Q' a s') : wpD w A t Q' s := fun Γ p h1 h2 h3 =>
  Sem.wp_mono _ Γ t (fun a _ s' h' => hq a s' h') (fun _ _ _ h' => h') p s (h Γ p h1 h2 h3)
theorem D.bind {m : Sem α} {f : α → Sem β} {Q : β → Shared → Prop} (h : wpD w A m (fun a s' => wpD w A (f a) Q s') s) : wpD w A (m >>= f) Q s := fun Γ p h1 h2 h3 => by
  rw [Sem.wp_bind']
  exact Sem.wp_mono _ Γ m (fun a p' s' h' => h' Γ p' h1 h2 h3) (fun _ _ _ h' => h') p s (h Γ p h1 h2 h3)
/-- first a part that needs no such fact -/
theorem D.bindN {m : Sem α} {f : α → Sem β} {Q : β → Shared → Prop} (h : wpN w A m (fun a s' => wpD w A (f a) Q s') s) : wpD w A (m >>= f) Q s := D.bind (D.of h)
theorem D.pure {a : α} {Q : α → Shared → Prop} (h : Q a s) : wpD w A (Pure.pure a) Q s := D.of (wpAny_pure h)
theorem D.holding {vs : List Value} {m : Sem α} {Q : α → Shared → Prop} (h : wpD w A m Q s) : wpD w A (PySem.holding vs m) Q s := fun Γ p h1 h2 h3 => by
  rw [Sem.wp_holding]; exact h Γ p h1 h2 h3
theorem D.keep {vs : List Value} {m : Sem α} {Q : α → Shared → Prop} (h : wpD w A m Q s) : wpD w A (m.keep vs) Q s := fun Γ p h1 h2 h3 => by
  rw [Sem.wp_keep]; exact h Γ p h1 h2 h3
theorem D.onRaise {k : Value → Sem Unit} {m : Sem α} {Q : α → Shared → Prop} (h : wpD w A m Q s) : wpD w A (m.onRaise k) Q s := fun Γ p h1 h2 h3 => by
  rw [Sem.wp_onRaise]
  exact Sem.wp_mono _ Γ m (fun _ _ _ h' => h') (fun _ _ _ h' => h'.elim) p s (h Γ p h1 h2 h3)
theorem D.operate {vs : List Value} {m : Sem Value} {Q : Value → Shared → Prop} (h : wpD w A m Q s) : wpD w A (PySem.operate vs m) Q s := fun Γ p h1 h2 h3 => by
  rw [Sem.wp_operate]; exact h Γ p h1 h2 h3

theorem nd_enter {Γ : Ctx} {c : Code} {h : Option Value} {p : Pos} (h2 : bad Γ.code = false) (h3 : nd Γ.below) : nd (Γ.enter c h p).below := by
  intro q hq
  have : (Γ.enter c h p).below = (Γ.code, p) :: Γ.below := rfl
  rw [this] at hq
  rcases List.mem_cons.mp hq with rfl | hq
  · exact h2
  · exact h3 q hq

theorem D.run {c : Code} {Q : Flow → Shared → Prop} (hc : codeD w A c Q s) : wpD w A (PySem.run c none) Q s := fun Γ p h1 h2 h3 => by
  rw [Sem.wp_run]
  refine wpCode_mono (fun r s' h' => ?_) (hc _ p rfl (h1.enter c none p (by intro x; cases x)) (nd_enter h2 h3))
  obtain ⟨f, rfl, hf⟩ := h'
  exact hf
theorem D.runValue {c : Code} {Q : Value → Shared → Prop} (hc : codeD w A c (fun f s' => ∃ v, f = .ret v ∧ Q v s') s) : wpD w A (PySem.runValue c) Q s := fun Γ p h1 h2 h3 => by
  rw [Sem.wp_runValue]
  refine wpCode_mono (fun r s' h' => ?_) (hc _ p rfl (h1.enter c none p (by intro x; cases x)) (nd_enter h2 h3))
  obtain ⟨f, rfl, v, rfl, hf⟩ := h'
  exact hf
theorem D.call {f : Value} {args : List Value} {Q : Value → Shared → Prop} (hc : codeD w A (.call f ⟨args, []⟩) (fun f s' => ∃ v, f = .ret v ∧ Q v s') s) : wpD w A (PySem.call f args) Q s := D.runValue hc

theorem D.tree {c : Code} {Q : Flow → Shared → Prop} (hb : bad c = false)
    (h : wpD w (A.under c) (denote table c) (fun fin s' => match fin with | .done f => Q f s' | .again c' => c'.quiet = true ∧ codeD w A c' Q s') s) : codeD w A c Q s := fun Γ p hc hΓ h3 => by
  rw [wpCode_iff_wp, hc]
  have h0 := h Γ p (hc ▸ hΓ.in) (by rw [hc]; exact hb) h3
  refine Sem.wp_mono _ Γ _ (fun fin p' s' h' => ?_) (fun _ _ _ h' => h'.elim) p s h0
  cases fin with
  | done f => exact ⟨f, rfl, h'⟩
  | again c' => exact ⟨h'.1, h'.2 (Γ.goto c') p' rfl (hΓ.goto c') h3⟩
theorem D.codeOf {c : Code} {Q : Flow → Shared → Prop} (h : codeAny (model pr w) A c (fun r s' => ∃ f, r = .ok f ∧ Q f s') s) : codeD w A c Q s := fun Γ p hc hΓ _ => h Γ p hc hΓ

theorem D.loop {c : Code} {Q : Flow → Shared → Prop} (hb : bad c = false) (hq : c.quiet = true) (I : Nat → Shared → Prop)
    (turn : ∀ n s, I n s → wpD w (A.under c) (denote table c) (fun fin s' => match fin with | .done f => Q f s' | .again c' => c' = c ∧ ∃ m, m < n ∧ I m s') s)
    (n : Nat) (h : I n s) : codeD w A c Q s := by
  induction n using Nat.strongRecOn generalizing s with
  | ind n ih =>
    refine D.tree hb (D.mono (turn n s h) fun fin s' hf => ?_)
    cases fin with
    | done f => exact hf
    | again c' => obtain ⟨rfl, m, hm, hI⟩ := hf; exact ⟨hq, ih m hm hI⟩

theorem D.func {body : List Stmt} {Q : Flow → Shared → Prop} (h : wpD w (A.deeper env) (execs body env) (fun f s' => Q (.ret (match f with | .ret v => v | _ => .none)) s') s) : codeD w A (.func body env) Q s := by
  refine D.tree rfl ?_
  show wpD _ (A.deeper env) (do point; match ← (execs body env).onRaise (leaving env) with | .ret v => ret v | _ => ret .none) _ s
  refine D.bindN (wpAny_point (D.bind (D.onRaise (D.mono h fun f s' h' => ?_))))
  cases f <;> exact D.pure h'

theorem D.call_def {f : Addr} {fd : FuncData} {args : List Value} {binds : List (Str × Value)} {st : Stmt} {Q : Value → Shared → Prop} (c : Cx w s.heap) (hf : (KF w.params).lookup f = some (fnO fd)) (hb : fd.body = .stmts (fnB st))
    (hcd : codeIn (KF w.params) fd.code fd.qualname = true) (hroom : A.depth < recursionLimit) (hbind : bindArgs fd ⟨args, []⟩ = Pure.pure binds)
    (hcell : (fd.scope.names.all fun x => x.2 != .cell) = true) (hloc : (binds.all fun x => decide (fd.scope.names.lookup x.1 = some .local)) = true) (hsc : (fd.scope.isCoroutine, fd.scope.isGenerator, fd.scope.kind) = (false, false, .function))
    (h : ∀ h₀ : Heap, h₀.Ns s.heap.objs.size (fun x => binds.reverse.lookup x) → (∀ b o, s.heap.get? b = some o → h₀.get? b = some o) →
      wpD w (A.deeper (callEnv fd s.heap.objs.size f)) (execs (fnB st) (callEnv fd s.heap.objs.size f)) (fun fl s' => Q (match fl with | .ret v => v | _ => .none) s') { s with heap := h₀, toks := s.toks + binds.length }) :
    wpD w A (PySem.call (.ref f) args) Q s := by
  simp only [Prod.mk.injEq] at hsc
  obtain ⟨hco, hgen, hk⟩ := hsc
  have hcell' : ∀ x ∈ fd.scope.names, x.2 ≠ .cell := fun x hx => by simpa using List.all_eq_true.mp hcell x hx
  refine D.call (D.tree rfl ?_)
  show wpD _ A.in1 (callAny (.ref f) ⟨args, []⟩) _ s
  simp only [callAny]
  refine D.bindN (wpAny_load (c.k _ _ hf) ?_)
  obtain ⟨cc, oc, vs, tq, hc, hoc, hdc, hq⟩ := codeRec_of c.k hcd
  have e0 : (fnO fd).data = .func fd := rfl
  simp only [e0, callFunction, hco, hgen, hb, hc]
  refine D.bindN (m := field (.ref cc) 1) (wpAny_field hoc hdc hq (D.bindN (wpAny_pure ?_)))
  rw [hbind]
  refine D.bindN (wpAny_pure (D.bindN (wpAny_newFunctionEnv hcell' (locs hloc) (fun h₀ hns₀ hsb₀ => D.bindN (wpAny_enterFrame (c.nolimit.fresh _ hsb₀) hroom (D.pure ⟨rfl, ?_⟩))) hk)))
  rw [← hc]
  refine D.func (D.mono (h h₀ hns₀ fun b o e => hsb₀.extBut b o (Nat.ne_of_lt (Heap.lt_size e)) (Heap.get?_push_of_some _ e)) fun fl s' h' => ⟨_, rfl, h'⟩)
end
end Mine
end

/-! Ba -/
section
open PySem PySem.W PySem.W.X PyProof.Rows PySem.Calls
open Sem (wp)
set_option Elab.async false
set_option maxRecDepth 100000
set_option maxHeartbeats 1000000
namespace Mine
def baO (b : Array UInt8) : Obj := ⟨.type "bytearray", none, .bytearray b 0, #[]⟩

theorem ba_slot_init : Slot "bytearray" "__init__" "bytearray.__init__" := .of (owner := "bytearray") (n := "__init__") (by rw [typeLookup_type, builtinLookup_eq_fast]; kernel_rfl) (by decide +kernel) (by decide +kernel) (by decide +kernel)
  (by first | exact .inl (by decide +kernel) | exact .inr (by decide +kernel)) (by rw [isSubtype_type]; kernel_rfl)
theorem ba_entry_init : entryFor table "bytearray.__init__" = some Builtin.«bytearray.__init__» := by first | exact entryFor_of_fast (by kernel_rfl) | exact entryFor_of_tree (by kernel_rfl)
theorem ba_entry_new : entryFor table "bytearray.__new__" = some Builtin.«list.__new__» := by
  exact entryFor_alias (id' := "list.__new__") (by kernel_rfl) rfl (by decide +kernel) (by kernel_rfl)
theorem ba_argsInit (o a : Value) : argsOk "bytearray.__init__" ⟨[o, a], []⟩ := by unfold argsOk; kernel_rfl
theorem ba_newCall (a : Value) : checkBuiltinCall "bytearray.__new__" ⟨[.type "bytearray", a], []⟩ = pure () := by kernel_rfl
theorem ba_plainNew : plainId "bytearray.__new__" = true := by decide +kernel
set_option maxRecDepth 1000000 in
set_option maxHeartbeats 4000000 in
theorem ba_owner : ("bytearray.__new__".splitOn ".__new__").headD "" = "bytearray" := by simp +decide [String.splitOn, String.splitOnAux]
theorem ba_sub : isSubtype (.type "bytearray") (.type "bytearray") = pure true := by rw [isSubtype_type]; kernel_rfl
theorem ba_release : typeLookup (.type "bytearray") "__release_buffer__" = pure (some (.builtin "bytearray.__release_buffer__")) := by rw [typeLookup_type, builtinLookup_eq_fast]; kernel_rfl
theorem ba_bind (v : Value) : Builtin.Bytes.bindOptional "bytearray.__init__" "bytearray" ["source", "encoding", "errors"] [v] [] = pure [some v, none, none] := by kernel_rfl
theorem ba_ends : (!("bytearray.__release_buffer__".endsWith ("." ++ "__release_buffer__"))) = false := by decide +kernel
theorem ba_drop : "bytearray.__release_buffer__".dropRight ("__release_buffer__".length + 1) = "bytearray" := by decide +kernel

theorem ba_type_eq (a : Value) : Builtin.«type.__call__» ⟨[.type "bytearray", a], []⟩ = (do
    let obj ← holding [.builtin "bytearray.__new__"] (call (.builtin "bytearray.__new__") [.type "bytearray", a] [])
    if !(← isInstance obj (.type "bytearray")) then rule "type.call.new-gave-other-type"; return ← ret obj
    match ← holding [obj] (callSpecial? obj "__init__" [a] []) with
    | none => ret obj
    | some r =>
      if r != .none then
        rule "type.call.init-returned-value"
        raiseError "TypeError" s!"__init__() should return None, not '{← typeNameOf r}'"
      ret obj) := by kernel_rfl

section
variable {w : World} {A : Around} {s : Shared}
theorem code_ba_new (a : Value) {Q : Value → Shared → Prop} (h : Q (.ref s.heap.objs.size) { s with heap := s.heap.push (baO #[]) }) : wpN w A (call (.builtin "bytearray.__new__") [.type "bytearray", a]) Q s := by
  refine wpAny_call (codeAny_of_tree ?_)
  show wpAny _ A.in1 (do checkBuiltinCall "bytearray.__new__" ⟨[.type "bytearray", a], []⟩; again (.builtin "bytearray.__new__" ⟨[.type "bytearray", a], []⟩)) _ _ s
  refine wpAny_bind (wpAny_of_eq (ba_newCall a) (wpAny_pure ⟨plainId_quiet ba_plainNew _, codeAny_builtin_stack ba_entry_new rfl fun p st => ?_⟩))
  rw [Around.under_plainId ba_plainNew _]
  have hsub := ba_sub
  have hown := ba_owner
  obtain ⟨hp, g, d, tk, os⟩ := s
  simp only [hown]
  wp_walk
  exact h

/-- no built-in on the stack holds it -/
theorem D.exported {v : Value} {Q : Bool → Shared → Prop} (h : Q false s) : wpD w A (Builtin.Bytes.exported v) Q s := fun Γ p h1 h2 h3 => by
  unfold Builtin.Bytes.exported
  have key : ∀ q : Code × Pos, bad q.1 = false → (match q with
      | (.builtin "bytearray.__contains__" ⟨u :: _, _⟩, _) | (.builtin "bytearray.__mod__" ⟨u :: _, _⟩, _)
      | (.builtin "bytearray.__rmod__" ⟨_ :: u :: _, _⟩, _) | (.builtin "_struct.pack_into.held" ⟨u :: _, _⟩, _) => Builtin.Bytes.sameRef u v
      | (.builtin "bytearray.find.held" ⟨_ :: _ :: held, _⟩, _) => held.any (Builtin.Bytes.sameRef v)
      | (.builtin id ⟨u :: _, _⟩, _) => Builtin.Bytes.sameRef u v && Builtin.Bytes.decodersThatHold.contains id
      | _ => false) = false := by
    rintro ⟨c, pp⟩ hb
    unfold bad badIds at hb
    split <;> (try rfl) <;> rename_i he <;> cases he
    all_goals (first
      | (exfalso; revert hb; simp; done)
      | (simp only [List.contains_append, Bool.or_eq_false_iff] at hb; rw [hb.2, Bool.and_false]))
  show wp _ Γ (stack >>= fun st => Pure.pure _) _ _ p s
  unfold stack
  rw [Sem.wp_bind', Sem.wp_stack, Sem.wp_pure, Sem.wp_pure']
  have : (((Γ.code, p) :: Γ.below).any fun
      | (.builtin "bytearray.__contains__" ⟨u :: _, _⟩, _) | (.builtin "bytearray.__mod__" ⟨u :: _, _⟩, _)
      | (.builtin "bytearray.__rmod__" ⟨_ :: u :: _, _⟩, _) | (.builtin "_struct.pack_into.held" ⟨u :: _, _⟩, _) => Builtin.Bytes.sameRef u v
      | (.builtin "bytearray.find.held" ⟨_ :: _ :: held, _⟩, _) => held.any (Builtin.Bytes.sameRef v)
      | (.builtin id ⟨u :: _, _⟩, _) => Builtin.Bytes.sameRef u v && Builtin.Bytes.decodersThatHold.contains id
      | _ => false) = false := by
    rw [List.any_eq_false]
    intro q hq
    have hb : bad q.1 = false := by
      rcases List.mem_cons.mp hq with rfl | hq
      · exact h2
      · exact h3 q hq
    rw [key q hb]
    decide
  show Q _ s
  first | (rw [this]; exact h) | (erw [this]; exact h)
end
end Mine
end

/-! Ba2 -/
section
open PySem PySem.W PySem.W.X PyProof.Rows PySem.Calls
open Sem (wp)
set_option Elab.async false
set_option maxRecDepth 100000
set_option maxHeartbeats 1000000
namespace Mine
section
variable {w : World} {A : Around} {s : Shared}
theorem wpN_if_false {α : Type} {c : Bool} {a b : Sem α} {Q : α → Shared → Prop} (hc : c = false) (h : wpN w A b Q s) : wpN w A (if c = true then a else b) Q s := by rw [hc]; exact h
theorem D.if_false {α : Type} {c : Bool} {a b : Sem α} {Q : α → Shared → Prop} (hc : c = false) (h : wpD w A b Q s) : wpD w A (if c = true then a else b) Q s := by rw [hc]; exact h
theorem D.of_eq {α : Type} {t : Sem α} {a : α} {Q : α → Shared → Prop} (e : t = Pure.pure a) (h : Q a s) : wpD w A t Q s := e ▸ D.pure h
theorem ba_write {a : Addr} {b : Array UInt8} {f : Array UInt8 → Array UInt8} {Q : Unit → Shared → Prop} (ho : s.heap.get? a = some (baO b)) (hz : (f b).size ≤ 1000)
    (h : ∀ h', h'.get? a = some (baO (f b)) → Heap.SameBut a s.heap h' → Q () { s with heap := h' }) : wpN w A (Builtin.Bytes.write (.ref a) f) Q s := by
  show wpN w A (updateBytearray a f) Q s
  unfold updateBytearray
  refine wpAny_bind (wpAny_load ho ?_)
  dsimp only [baO]
  have e : (s.heap.update a (Obj.mapBytearray f)).get? a = some (baO (f b)) := Heap.get?_update_self _ ho rfl
  refine wpAny_bind (wpAny_update ho (wpAny_lookBehind (s := { s with heap := s.heap.update a (Obj.mapBytearray f) }) e ?_ (h _ e (Heap.SameBut.update ..))))
  show (if (f b).size > sizeLine then some "bytearray:memory" else none) = none
  rw [if_neg]
  rw [sizeLine]; (first | lia | omega)

theorem bad_bi {id : String} {a : Args} (h : badIds.contains id = false) : bad (.builtin id a) = false := h
theorem asStr_int (i : Int) (t : Tok) : asStr? (.int i t) = Pure.pure none := by with_unfolding_all rfl
theorem asIndex_int (i : Int) (t : Tok) : asIndex (.int i t) = Pure.pure i := by with_unfolding_all rfl
theorem int_index : typeLookup (.type "int") "__index__" = Pure.pure (some (.builtin "int.__index__")) := by rw [typeLookup_type, builtinLookup_eq_fast]; kernel_rfl

theorem special_int (i : Int) (t : Tok) : specialOf (.int i t) "__index__" = Pure.pure (some (.builtin "int.__index__")) := by
  unfold specialOf
  show (Pure.pure (Value.type "int") >>= fun ty => typeLookup ty "__index__") = _
  rw [pure_bind, int_index]
theorem bindEq {α β : Type} {m : Sem α} {a : α} {f : α → Sem β} {Q : β → Shared → Prop} (e : m = Pure.pure a) (h : wpN w A (f a) Q s) : wpN w A (m >>= f) Q s := by rw [e, pure_bind]; exact h
theorem attempt_pure {α : Type} (a : α) : (Pure.pure a : Sem α).attempt = Pure.pure (.ok a) := rfl
theorem baD_init {a : Addr} {n : Nat} {t : Tok} {Q : Flow → Shared → Prop} (hn : n ≤ 1000) (ho : s.heap.get? a = some (baO #[]))
    (h : ∀ h', h'.get? a = some (baO (Array.replicate n 0)) → (∀ b o, b ≠ a → s.heap.get? b = some o → h'.get? b = some o) → Q (.ret .none) { s with heap := h' }) :
    wpD w A (Builtin.«bytearray.__init__» ⟨[.ref a, .int n t], []⟩) (fun fin s' => match fin with | .done f => Q f s' | .again _ => False) s := by
  obtain ⟨hp, g, d, tk, os⟩ := s
  have hT : (⟨hp, g, d, tk, os⟩ : Shared).TypeIs (.ref a) "bytearray" := ⟨_, ho, rfl⟩
  unfold Builtin.«bytearray.__init__»
  refine D.bindN ?_
  unfold Builtin.Bytes.ownRelease Builtin.Bytes.slotIsOwn
  refine wpAny_bind (wpAny_bind (wpAny_specialOf hT ba_release ?_))
  dsimp only
  rw [if_neg (by rw [ba_ends]; decide), ba_drop]
  refine wpAny_isInstance hT ba_sub (wpAny_pure ?_)
  rw [if_neg (by decide)]
  refine D.bind (D.of_eq (ba_bind _) ?_)
  dsimp only
  refine D.bind (D.of_eq rfl (D.bind (D.of_eq rfl ?_)))
  refine D.bind (D.bind (D.exported ?_))
  refine D.bindN (m := Builtin.Bytes.exportsOf (.ref a)) (wpAny_bind (wpAny_load ho (wpAny_pure (D.pure ?_))))
  rw [if_neg (by simp)]
  refine D.of (wpAny_bind (ba_write ho (by simp) fun h1 e1 k1 => ?_))
  rw [asStr_int, pure_bind]
  rw [if_neg (by decide)]
  rw [if_neg (by decide), if_neg (by decide), pure_bind, special_int, pure_bind]
  rw [if_pos (by decide), asIndex_int, attempt_pure, pure_bind]
  dsimp only
  have c1 : (!Builtin.Bytes.fitsIndex (n : Int)) = false := by
    unfold Builtin.Bytes.fitsIndex
    simp; (first | lia | omega)
  have c2 : ((n : Int) == 2 ^ 63 - 1) = false := by simp; (first | lia | omega)
  have c3 : Builtin.Bytes.tooLong (n : Int).toNat = false := by
    unfold Builtin.Bytes.tooLong
    simp [sizeLine]; (first | lia | omega)
  rw [if_neg (by rw [c1]; decide), if_neg (by (first | lia | omega)), if_neg (by rw [c2]; decide), if_neg (by rw [c3]; decide)]
  refine wpAny_bind (wpAny_rule ?_)
  by_cases hz : n = 0
  · subst hz
    rw [if_neg (by decide)]
    refine wpAny_pure ?_
    refine h h1 (by simpa using e1) fun b o hb e => (k1.2 b hb).trans e
  · rw [if_pos (by (first | lia | omega))]
    refine wpAny_bind (ba_write e1 (by simp; (first | lia | omega)) fun h2 e2 k2 => wpAny_pure ?_)
    refine h h2 (by simpa using e2) fun b o hb e => (k2.2 b hb).trans ((k1.2 b hb).trans e)

end
end Mine
end

/-! Ba3 -/
section
open PySem PySem.W PySem.W.X PyProof.Rows PySem.Calls
open Sem (wp)
set_option Elab.async false
set_option maxRecDepth 100000
set_option maxHeartbeats 1000000
namespace Mine
theorem den_bi {id : String} {args : Args} {b : Builtin} (hb : entryFor table id = some b) : denote table (.builtin id args) = b args := by
  show (match entryFor table id with | some b => b args | none => unsupported ((withoutEnding? id "#data").getD id)) = _
  rw [hb]
section
variable {w : World} {A : Around} {s : Shared}
/-- bytearray(n) -/
theorem baD_call {n : Nat} {t : Tok} {Q : Value → Shared → Prop} (hn : n ≤ 1000)
    (h : ∀ h', h'.get? s.heap.objs.size = some (baO (Array.replicate n 0)) → (∀ b o, s.heap.get? b = some o → h'.get? b = some o) → Q (.ref s.heap.objs.size) { s with heap := h' }) :
    wpD w A (call (.type "bytearray") [.int n t]) Q s := by
  refine D.call (D.tree rfl ?_)
  show wpD w A.in1 (Pure.pure (Fin.again (.builtin "type.__call__" ⟨[.type "bytearray", .int n t], []⟩))) _ s
  refine D.pure ⟨Code.quiet_builtin _ (by decide +kernel), D.tree (bad_bi (by decide +kernel)) ?_⟩
  rw [Around.under_plain (weight_type_call_type "bytearray" [.int n t] []) rfl]
  rw [den_bi F.entry_type_call, ba_type_eq]
  refine D.bindN (wpAny_holding (code_ba_new _ ?_))
  have ho : (s.heap.push (baO #[])).get? s.heap.objs.size = some (baO #[]) := Heap.get?_push_size _ rfl
  have hT : ({ s with heap := s.heap.push (baO #[]) } : Shared).TypeIs (.ref s.heap.objs.size) "bytearray" := ⟨_, ho, rfl⟩
  refine D.bindN (wpAny_isInstance hT ba_sub ?_)
  rw [if_neg (by decide)]
  refine D.bind (D.holding ?_)
  unfold callSpecial?
  refine D.bindN (wpAny_specialOf hT ba_slot_init.lookup ?_)
  dsimp only
  refine D.holding (D.bindN (wpAny_of_eq (ba_slot_init.bind _) ?_))
  refine D.bind (D.call (D.tree rfl ?_))
  show wpD _ _ (do checkBuiltinCall "bytearray.__init__" ⟨[.ref s.heap.objs.size, .int n t], []⟩; again (.builtin "bytearray.__init__" ⟨[.ref s.heap.objs.size, .int n t], []⟩)) _ _
  refine D.bindN (ba_slot_init.check _ _ _ _ _ _ _ _ hT (ba_argsInit _ _) (D.pure ⟨Code.quiet_builtin _ (by decide +kernel), D.tree (bad_bi (by decide +kernel)) ?_⟩))
  rw [den_bi ba_entry_init]
  refine D.mono (baD_init (Q := fun f s' => ∃ v, f = .ret v ∧ v = .none ∧ Q (.ref s.heap.objs.size) s') hn ho fun h' e k => ⟨_, rfl, rfl, h h' e fun b o eb => k b o (Nat.ne_of_lt (Heap.lt_size eb)) (Heap.get?_push_of_some _ eb)⟩) fun fin s' hf => ?_
  cases fin with
  | again c => exact hf.elim
  | done f =>
    obtain ⟨v, rfl, rfl, hq⟩ := hf
    refine ⟨_, rfl, D.pure ?_⟩
    dsimp only
    rw [if_neg (by decide)]
    exact D.pure ⟨_, rfl, hq⟩
end
end Mine
end

/-! Lp -/
section
open PySem PySem.W PySem.W.X PyProof.Rows PySem.Calls
open Sem (wp)
set_option Elab.async false
set_option maxRecDepth 100000
set_option maxHeartbeats 1000000
namespace Mine
/-- room on the stack -/
structure Rm (k : Nat) (A : Around) : Prop where
  h : A.handled = none
  d : A.depth + k ≤ 400
  u : A.units + 10 * k ≤ 1000
theorem Rm.deeper {k : Nat} {A : Around} {env : Env} (r : Rm (k + 1) A) : Rm k (A.deeper env) := ⟨r.h, by have := r.d; show A.depth + 1 + k ≤ 400; (first | lia | omega), by have := r.u; show A.units + 3 + 10 * k ≤ 1000; (first | lia | omega)⟩
theorem Rm.in1 {k : Nat} {A : Around} (r : Rm (k + 1) A) : Rm k A.in1 := ⟨r.h, by have := r.d; show A.depth + k ≤ 400; (first | lia | omega), by have := r.u; show A.units + 1 + 10 * k ≤ 1000; (first | lia | omega)⟩
theorem Rm.mono {k j : Nat} {A : Around} (r : Rm k A) (h : j ≤ k) : Rm j A := ⟨r.h, by have := r.d; (first | lia | omega), by have := r.u; (first | lia | omega)⟩
theorem Rm.room {k : Nat} {A : Around} (r : Rm k A) : A.depth < recursionLimit := by have := r.d; show A.depth < 1000; (first | lia | omega)
theorem Rm.units {k : Nat} {A : Around} (r : Rm k A) : A.units < cLine := by have := r.u; show A.units < 9900; (first | lia | omega)

def stdA : Around := { handled := none, depth := 400, frames := none, guards := none, units := 1000 }
theorem wp_std {α : Type} {M : Model} {A : Around} {k : Nat} {t : Sem α} {Q : α → Shared → Prop} {E : Value → Shared → Prop} {s : Shared} (r : Rm k A) (h : wpAny M stdA t Q E s) : wpAny M A t Q E s := fun Γ p hΓ =>
  h Γ p ⟨hΓ.1.trans r.h, Nat.le_trans hΓ.2.1 (by have := r.d; show A.depth ≤ 400; (first | lia | omega)), fun l hl => (nomatch hl), fun l hl => (nomatch hl), Nat.le_trans hΓ.2.2.2.2 (by have := r.u; show A.units ≤ 1000; (first | lia | omega))⟩

section
variable {w : World} {A : Around} {s : Shared} {env : Env} {I : Addr} {fp wr : List Addr} {n : Nat} {P : Nat → Value → Prop} {St : Nat → Heap → Prop}

theorem for_rule {target : Expr} {body : List Stmt} {Q : Flow → Shared → Prop} (W : Walks pr w A I fp wr n P St) (J : Nat → Shared → Prop)
    (stab : ∀ i s h' tk, J i s → (∀ b o, b ∉ wr → s.heap.get? b = some o → h'.get? b = some o) → J i { s with heap := h', toks := tk })
    (turn : ∀ i v s, i < n → P i v → St (i + 1) s.heap → J i s → wpN w A (letOwnedTupleGo target (.ref I) v) (fun _ s1 => wpN w A (assign target env v) (fun _ s2 => wpN w A (execs body env) (fun f s3 => f = .next ∧ J (i + 1) s3 ∧ ∀ b ∈ fp, ∀ o, s.heap.get? b = some o → s3.heap.get? b = some o) s2) s1) s)
    (hst : St 0 s.heap) (hj : J 0 s) (fin : ∀ s', J n s' → Q .next s') : codeAny (model pr w) A (.forLoop target (.ref I) body [] env) (fun r s' => ∃ f, r = .ok f ∧ Q f s') s := by
  refine codeAny_forLoop_any (fun k s' => ∃ i, i ≤ n ∧ k = n - i ∧ St i s'.heap ∧ J i s') ?_ n ⟨0, Nat.zero_le _, rfl, hst, hj⟩
  rintro k s' ⟨i, hi, rfl, hSt, hJ⟩
  by_cases hlt : i < n
  · refine W.item i s' _ _ hlt hSt fun v h' tk hv hSt' hk => ?_
    have hJ' := stab i s' h' tk hJ hk
    refine wpN.up (wpAny_mono (turn i v _ hlt hv hSt' hJ') (fun _ s1 h1 => wpN.up (wpAny_mono h1 (fun _ s2 h2 => wpN.up (wpAny_mono h2 (fun f s3 h3 => ?_) fun _ _ z => z)) fun _ _ z => z)) fun _ _ z => z)
    obtain ⟨rfl, hJ3, hfp⟩ := h3
    exact ⟨n - (i + 1), by (first | lia | omega), i + 1, hlt, rfl, W.frame _ _ _ hSt' hfp, hJ3⟩
  · obtain rfl : i = n := Nat.le_antisymm hi (Nat.not_lt.mp hlt)
    refine W.done s' _ _ hSt fun h' tk hk => ?_
    exact wpAny_execs_nil ⟨_, rfl, fin _ (stab _ _ _ _ hJ hk)⟩

theorem exec_for {target iter : Expr} {body : List Stmt} {pos : Pos} {Q : Flow → Shared → Prop}
    (h : wpN w A (eval iter env) (fun x s₁ => wpN w A (pyIter x) (fun it s₂ => codeAny (model pr w) A (.forLoop target it body [] env) (fun r s' => ∃ f, r = .ok f ∧ Q f s') s₂) s₁) s)
    (hs : ∀ x, foldedSetIterable iter env x = pure x) : wpN w A (exec (.For target iter body [] pos) env) Q s := by
  refine wpAny_For (wpAny_mono h (fun x s₁ h₁ => wpAny_mono h₁ (fun it s₂ h₂ => codeAny_mono h₂ fun r s' hr => ?_) fun _ _ z => z) fun _ _ z => z) hs
  obtain ⟨f, rfl, hf⟩ := hr
  exact hf
end
end Mine
end

/-! Rg -/
section
open PySem PySem.W PySem.W.X PyProof.Rows PySem.Calls
open Sem (wp)
set_option Elab.async false
set_option maxRecDepth 100000
set_option maxHeartbeats 1000000
namespace Mine
section
variable {w : World} {A : Around} {s : Shared}
abbrev RSt (I : Addr) (a c : Int) (n : Nat) (i : Nat) (h : Heap) : Prop := IsRangeIter h I (a + (i : Nat) * c) ((n : Int) - (i : Nat)) c
abbrev RP (a c : Int) (i : Nat) (v : Value) : Prop := ∃ t, v = .int (a + i * c) t

theorem range_it {a b c : Int} {t u v : Tok} {n : Nat} {Q : Value → Shared → Prop} {s₁ : Shared} {tk : Nat} (e : s₁ = { s with heap := s.heap.push { cls := .type "range", data := .fields #[.int a t, .int b u, .int c v] }, toks := tk })
    (hn : Builtin.Range.rangeSize a b c = (n : Int)) (hs : Builtin.Range.small a b c = true)
    (h : ∀ (I : Nat) h' tk, RSt I a c n 0 h' → s.heap.objs.size ≤ I → (∀ b o, s.heap.get? b = some o → h'.get? b = some o) → Q (.ref I) { s with heap := h', toks := tk }) : wpN w A (pyIter (.ref s.heap.objs.size)) Q s₁ := by
  subst e
  refine wpAny_pyIter_range (IsRange.new ..) hs ?_
  refine h _ _ _ ?_ ?_ (fun b o e => Heap.get?_push_of_some _ (Heap.get?_push_of_some _ e))
  · show IsRangeIter _ _ (a + ((0 : Nat) : Int) * c) ((n : Int) - ((0 : Nat) : Int)) c
    have e1 : a + ((0 : Nat) : Int) * c = a := by simp
    have e2 : (n : Int) - ((0 : Nat) : Int) = Builtin.Range.rangeSize a b c := by rw [hn]; simp
    rw [e1, e2]
    exact Heap.get?_push_size _ rfl
  · simp [Heap.size_push]

theorem rsize1 (n : Nat) : Builtin.Range.rangeSize 0 (n : Int) 1 = (n : Int) := by rw [rangeSize_one]; split <;> (first | lia | omega)
theorem range1 {n : Nat} {t : Tok} {Q : Value → Shared → Prop} (hn : n ≤ 1000)
    (h : ∀ (I : Nat) h' tk, RSt I 0 1 n 0 h' → s.heap.objs.size ≤ I → (∀ b o, s.heap.get? b = some o → h'.get? b = some o) → Q (.ref I) { s with heap := h', toks := tk }) :
    wpN w A (call (.type "range") [.int n t]) (fun x s₁ => wpN w A (pyIter x) Q s₁) s :=
  call_range_1 (range_it rfl (rsize1 n) (small_one (by decide) (by decide) (by (first | lia | omega)) (by (first | lia | omega))) h)
theorem range2 {a : Nat} {n : Nat} {b : Int} {t u : Tok} {Q : Value → Shared → Prop} (hb : b = a + n) (ha : a ≤ 1000) (hn : n ≤ 1000)
    (h : ∀ (I : Nat) h' tk, RSt I a 1 n 0 h' → s.heap.objs.size ≤ I → (∀ b o, s.heap.get? b = some o → h'.get? b = some o) → Q (.ref I) { s with heap := h', toks := tk }) :
    wpN w A (call (.type "range") [.int a t, .int b u]) (fun x s₁ => wpN w A (pyIter x) Q s₁) s := by
  refine call_range_2 (range_it rfl (n := n) ?_ (small_one (by (first | lia | omega)) (by (first | lia | omega)) (by (first | lia | omega)) (by (first | lia | omega))) h)
  rw [rangeSize_one]; split <;> (first | lia | omega)
theorem rsize3 {q wd : Nat} (hw : 0 < wd) : Builtin.Range.rangeSize 0 ((q * wd : Nat) : Int) (wd : Int) = (q : Int) := by
  unfold Builtin.Range.rangeSize
  rw [if_pos (by (first | lia | omega))]
  rcases Nat.eq_zero_or_pos q with rfl | hq
  · simp
  · have hp : 0 < q * wd := Nat.mul_pos hq hw
    rw [if_pos (by (first | lia | omega))]
    have e : (((q * wd : Nat) : Int) - 0 - 1) = ((wd : Int) - 1) + ((q : Int) - 1) * wd := by
      rw [Int.sub_mul, Int.natCast_mul]
      (first | lia | omega)
    rw [e, Int.add_mul_ediv_right _ _ (by (first | lia | omega)), Int.ediv_eq_zero_of_lt (by (first | lia | omega)) (by (first | lia | omega))]
    (first | lia | omega)
theorem small3 {q wd : Nat} (hw : 0 < wd) (h : q * wd ≤ 1000) (hw2 : wd ≤ 1000) : Builtin.Range.small 0 ((q * wd : Nat) : Int) (wd : Int) = true := by
  have hq : q ≤ q * wd := Nat.le_mul_of_pos_right q hw
  unfold Builtin.Range.small
  rw [rsize3 hw]
  generalize hb : q * wd = b at h hq
  simp only [Builtin.Range.rangeFitsLong, Bool.and_eq_true, Bool.or_eq_true, decide_eq_true_eq, beq_iff_eq, show ((wd : Int) > 0) by (first | lia | omega), if_true]
  (first | lia | omega)
theorem range3 {q wd : Nat} {t u v : Tok} {Q : Value → Shared → Prop} (hw : 0 < wd) (h1 : q * wd ≤ 1000) (h2 : wd ≤ 1000)
    (h : ∀ (I : Nat) h' tk, RSt I 0 wd q 0 h' → s.heap.objs.size ≤ I → (∀ b o, s.heap.get? b = some o → h'.get? b = some o) → Q (.ref I) { s with heap := h', toks := tk }) :
    wpN w A (call (.type "range") [.int 0 t, .int (q * wd : Nat) u, .int wd v]) (fun x s₁ => wpN w A (pyIter x) Q s₁) s :=
  call_range_3 (by (first | lia | omega)) (range_it rfl (rsize3 hw) (small3 hw h1 h2) h) (Or.inl (PyProof.noPylong_small (by (first | lia | omega))))
end
end Mine
end

/-! Bs -/
section
open PySem PySem.W PySem.W.X PyProof.Rows PySem.Calls
open Sem (wp)
set_option Elab.async false
set_option maxRecDepth 100000
set_option maxHeartbeats 1000000
namespace Mine

def RetB (Q : Value → Shared → Prop) (s : Shared) (b : Array UInt8) : Prop := ∀ tk h' tk', (∀ x o, s.heap.get? x = some o → h'.get? x = some o) → Q (.bytes b tk) ⟨h', s.gens, s.drawn, tk', s.os⟩
theorem mem_keep {h₀ h : Heap} {news : List (Addr × Obj)} (D : Mem h₀ h [] news) {x : Addr} {o : Obj} (e : h₀.get? x = some o) : h.get? x = some o :=
  D.keep x o e (by have q : away [] x = true := rfl; rw [q, Bool.or_true])
theorem RetB.use {Q : Value → Shared → Prop} {s : Shared} {b b' : Array UInt8} {tk h' tk' news} (R : RetB Q s b) (D : Mem s.heap h' [] news) (e : b' = b) : Q (.bytes b' tk) ⟨h', s.gens, s.drawn, tk', s.os⟩ := e ▸ R tk h' tk' fun _ _ q => mem_keep D q
section
local macro_rules | `(tactic| x_close) => `(tactic| (first | (refine RetB.use (by assumption) (by assumption) ?_; first | rfl | (simp; done)) | (refine RetB.use (by assumption) (Mem.start _) ?_; first | rfl | (simp; done))))
set_option maxHeartbeats 0 in
theorem by_ba0 {w : World} {s : Shared} {a : Addr} {b : Array UInt8} {Q E : Value → Shared → Prop}
    (ho : s.heap.get? a = some ⟨.type "bytearray", none, .bytearray b 0, #[]⟩) (hn : b.size < 2000) (hret : RetB Q s b) :
    wpAny (model pr w) { handled := none, depth := 400, frames := none, guards := none, units := 1000 } (call (.type "bytes") [.ref a]) Q E s := by
  x_run
end

theorem ba_slot_set : Slot "bytearray" "__setitem__" "bytearray.__setitem__" := .of (owner := "bytearray") (n := "__setitem__") (by rw [typeLookup_type, builtinLookup_eq_fast]; kernel_rfl) (by decide +kernel) (by decide +kernel) (by decide +kernel)
  (by first | exact .inl (by decide +kernel) | exact .inr (by decide +kernel)) (by rw [isSubtype_type]; kernel_rfl)
theorem ba_entry_set : entryFor table "bytearray.__setitem__" = some Builtin.«bytearray.__setitem__» := entryFor_of_tree (by kernel_rfl)
theorem ba_argsSet (a b c : Value) : argsOk "bytearray.__setitem__" ⟨[a, b, c], []⟩ := by unfold argsOk; kernel_rfl

section
variable {w : World} {A : Around} {s : Shared}
theorem fits_small {k : Int} (h0 : 0 ≤ k) (h1 : k < 1000000) : (!Builtin.Bytes.fitsIndex k) = false := by
  unfold Builtin.Bytes.fitsIndex
  simp; (first | lia | omega)
theorem subscript_int {k : Int} {t : Tok} (h0 : 0 ≤ k) (h1 : k < 1000000) : Builtin.Bytes.subscript? (.int k t) = Pure.pure (some k) := by
  unfold Builtin.Bytes.subscript?
  rw [special_int, pure_bind]
  rw [if_neg (by decide), asIndex_int, pure_bind, if_neg (by rw [fits_small h0 h1]; decide)]
theorem byteValue_int {v : Int} {t : Tok} (h0 : 0 ≤ v) (h1 : v < 256) : Builtin.Bytes.byteValue (.int v t) = Pure.pure v.toNat.toUInt8 := by
  unfold Builtin.Bytes.byteValue
  rw [asIndex_int, pure_bind, if_neg (by simp; (first | lia | omega))]
theorem seqIndex_in {k : Int} {n : Nat} (h0 : 0 ≤ k) (h1 : k < n) : seqIndex? k n = some k.toNat := by
  unfold seqIndex?
  have e : ¬ k < 0 := by (first | lia | omega)
  simp only [e, if_false]
  rw [if_pos (by simp; (first | lia | omega))]

theorem ba_set {a : Addr} {b : Array UInt8} {k v : Int} {t u : Tok} {Q : Unit → Shared → Prop} (ho : s.heap.get? a = some (baO b)) (h0 : 0 ≤ k) (h1 : k < b.size) (hz : b.size ≤ 1000) (v0 : 0 ≤ v) (v1 : v < 256)
    (h : ∀ h', h'.get? a = some (baO (b.setIfInBounds k.toNat v.toNat.toUInt8)) → Heap.SameBut a s.heap h' → Q () { s with heap := h' }) : wpN w A (setItem (.ref a) (.int k t) (.int v u)) Q s := by
  have hT : s.TypeIs (.ref a) "bytearray" := ⟨_, ho, rfl⟩
  unfold setItem
  refine wpAny_holding ?_
  refine wpAny_bind (wpAny_sequenceKey hT (by decide) ?_)
  refine wpAny_bind (wpAny_callSpecial?_slot (name := Str.ofString "__setitem__") hT ba_slot_set (wpAny_call_entry ba_slot_set hT ba_entry_set ?_ (ba_argsSet _ _ _)))
  show wpAny _ _ (Builtin.Bytes.subscript? (.int k t) >>= _) _ _ s
  rw [subscript_int h0 (by (first | lia | omega)), pure_bind]
  show wpAny _ _ (Builtin.Bytes.byteValue (.int v u) >>= _) _ _ s
  rw [byteValue_int v0 v1, pure_bind]
  have hp : wpAny (model pr w) A.in1 (Builtin.Bytes.payload (.ref a)) (fun x s' => x = b ∧ s' = s) No s := by
    unfold Builtin.Bytes.payload Builtin.Bytes.payload?
    exact wpAny_bind (wpAny_bind (wpAny_load ho (wpAny_pure (wpAny_pure ⟨rfl, rfl⟩))))
  refine wpAny_bind (wpAny_mono hp (fun x s' e => ?_) fun _ _ z => z)
  obtain ⟨rfl, rfl⟩ := e
  rw [seqIndex_in h0 h1]
  refine wpAny_bind (ba_write ho (by simpa using hz) fun h' e k' => wpAny_pure ⟨_, rfl, wpAny_pure (h h' e k')⟩)
end
end Mine
end

/-! De -/
section
open PySem PySem.W PySem.W.X PyProof.Rows PySem.Calls
open Sem (wp)
set_option Elab.async false
set_option maxRecDepth 100000
set_option maxHeartbeats 1000000
namespace Mine
section
variable {w : World} {A : Around} {s : Shared} {env : Env} {pos p : Pos} {x : Str}
theorem D.execs_cons {st : Stmt} {rest : List Stmt} {Q : Flow → Shared → Prop} (h : wpD w A (exec st env) (fun f s' => match f with | .next => wpD w A (execs rest env) Q s' | f => Q f s') s) : wpD w A (execs (st :: rest) env) Q s := by
  rw [PySem.execs_cons]
  refine D.bind (D.mono h fun f s' h' => ?_)
  cases f <;> first | exact h' | exact D.pure h'
theorem D.assign {pos' : Pos} {value : Expr} {Q : Flow → Shared → Prop} (h : wpD w A (eval value env) (fun v s₁ => wpN w A (storeName env x v) (fun _ => Q .next) s₁) s)
    (hs : swapsWith value (some (.Name x pos')) pos.line env = Pure.pure false) : wpD w A (exec (.Assign [.Name x pos'] value pos) env) Q s := by
  rw [exec_Assign_Name env x pos' value pos hs]
  refine D.bindN (wpAny_standAt (D.bind (D.mono h fun v s₁ h₁ => D.of (wpAny_bind (wpAny_standAt (wpAny_bind (wpAny_bindName (wpAny_mono h₁ (fun _ s₂ h₂ => wpAny_pure h₂) fun _ _ z => z))))))))
theorem D.binop {l r : Expr} {op : Operator} {Q : Value → Shared → Prop} (h : wpD w A (eval l env) (fun a s₁ => wpD w A (eval r env) (fun b s₂ => wpN w A (binaryOp op a b) Q s₂) s₁) s) : wpD w A (eval (.BinOp l op r pos) env) Q s := by
  rw [eval_BinOp]
  refine D.bind (D.mono h fun a s₁ h₁ => D.bind (D.holding (D.mono h₁ fun b s₂ h₂ => D.bindN (wpAny_standAt (D.operate (D.of h₂))))))
theorem D.callT {T : String} {args : List Expr} {Q : Value → Shared → Prop} {e : Expr} {rest : List Expr} (f : Fm env) (c : Cx w s.heap) (hx : env.kindOf x = some .globalImplicit) (eb : biOk w.params x (.type T)) (hd : (x == ("__debug__" : Str)) = false)
    (hs : starEach args env = (false, eval e env) :: starEach rest env) (hp : (backTo pos (starEach rest env)).any (·.1) = false)
    (h : wpN w A (spliced (backTo pos (starEach args env))) (fun vs s₁ => wpD w A (PySem.call (.type T) vs) Q s₁) s) : wpD w A (eval (.Call (.Name x p) args [] pos) env) Q s := by
  show wpD w A (do callWith pos (← eval (.Name x p) env) [] (backTo pos (starEach args env)) (backToKw pos (keywordEach [] env))) Q s
  refine D.bindN (ev_biF f c hx eb ?_ hd)
  show wpD w A (callWith pos (.type T) [] (backTo pos (starEach args env)) []) Q s
  rw [hs] at h ⊢
  have hplain : (backTo pos ((false, eval e env) :: starEach rest env)).any (·.1) = false := by show (false || (backTo pos (starEach rest env)).any (·.1)) = false; rw [hp]; rfl
  unfold callWith
  refine D.bindN (wpAny_holding (evalArgs_plain (wpAny_mono h (fun vs s₁ h₁ => D.bindN (wpAny_standAt ?_)) fun _ _ z => z)))
  simp only [hplain, List.any_nil, Bool.or_false]
  refine D.bindN (wpAny_pure ?_)
  exact D.bind (D.mono h₁ fun r s₂ hr => D.bindN (wpAny_holding (wpAny_point (D.pure hr))))
theorem D.callF {fa : Addr} {fd : FuncData} {args : List Expr} {Q : Value → Shared → Prop} {e : Expr} {rest : List Expr} (f : Fm env) (c : Cx w s.heap) (hx : env.kindOf x = some .globalImplicit) (eg : nsIn (KF w.params) 3 x = some (some (.ref fa)))
    (hf : (KF w.params).lookup fa = some (fnO fd)) (hd : (x == ("__debug__" : Str)) = false)
    (hs : starEach args env = (false, eval e env) :: starEach rest env) (hp : (backTo pos (starEach rest env)).any (·.1) = false)
    (h : wpN w A (spliced (backTo pos (starEach args env))) (fun vs s₁ => Cx w s₁.heap ∧ wpD w A (PySem.call (.ref fa) vs) Q s₁) s) : wpD w A (eval (.Call (.Name x p) args [] pos) env) Q s := by
  show wpD w A (do callWith pos (← eval (.Name x p) env) [] (backTo pos (starEach args env)) (backToKw pos (keywordEach [] env))) Q s
  refine D.bindN (ev_glob c f.kind hx f.glob eg ?_ hd)
  show wpD w A (callWith pos (.ref fa) [] (backTo pos (starEach args env)) []) Q s
  rw [hs] at h ⊢
  have hplain : (backTo pos ((false, eval e env) :: starEach rest env)).any (·.1) = false := by show (false || (backTo pos (starEach rest env)).any (·.1)) = false; rw [hp]; rfl
  unfold callWith
  refine D.bindN (wpAny_holding (evalArgs_plain (wpAny_mono h (fun vs s₁ h₁ => D.bindN (wpAny_standAt ?_)) fun _ _ z => z)))
  simp only [hplain, List.any_nil, Bool.or_false]
  have tail : ∀ {t : Sem Value}, wpD w A t Q s₁ → wpD w A (t >>= fun r => PySem.holding [r] point >>= fun _ => Pure.pure r) Q s₁ :=
    fun ht => D.bind (D.mono ht fun r s₂ hr => D.bindN (wpAny_holding (wpAny_point (D.pure hr))))
  refine D.bindN (m := keeperOf (.ref fa)) ?_
  unfold keeperOf
  refine wpAny_bind (wpAny_load (h₁.1.k _ _ hf) (wpAny_pure ?_))
  dsimp only
  split
  · exact tail h₁.2
  · exact tail (D.keep h₁.2)
end
end Mine
end

/-! Nl -/
section
open PySem PySem.W PySem.W.X PyProof.Rows PySem.Calls
open Sem (wp)
set_option Elab.async false
set_option maxRecDepth 100000
set_option maxHeartbeats 1000000
namespace Mine
/-- the names of a frame that are known -/
def Nl (h : Heap) (L : Addr) (l : List (Str × Value)) : Prop := ∃ m, h.Ns L m ∧ ∀ x v, l.lookup x = some v → m x = some v
theorem mem_of_lookup {x : Str} {v : Value} : ∀ {l : List (Str × Value)}, l.lookup x = some v → (x, v) ∈ l
  | [], h => by cases h
  | (y, u) :: l, h => by
    rw [List.lookup_cons] at h
    by_cases e : (x == y) = true
    · rw [e] at h
      rw [beq_iff_eq] at e
      cases h; subst e; exact .head _
    · simp only [Bool.not_eq_true] at e
      rw [e] at h
      exact .tail _ (mem_of_lookup h)
theorem Nl.sub {h : Heap} {L : Addr} {l l' : List (Str × Value)} (N : Nl h L l) (e : l'.map (fun p => l.lookup p.1) = l'.map (fun p => some p.2)) : Nl h L l' := by
  obtain ⟨m, hn, hm⟩ := N
  refine ⟨m, hn, fun x v hl => hm x v ?_⟩
  exact (List.map_inj_left.mp e) (x, v) (mem_of_lookup hl)
theorem Nl.keeps {h h' : Heap} {L : Addr} {l : List (Str × Value)} (N : Nl h L l) (hk : ∀ o, h.get? L = some o → h'.get? L = some o) : Nl h' L l := by
  obtain ⟨m, ⟨o, es, ep, e, r⟩, hm⟩ := N
  exact ⟨m, ⟨o, es, ep, hk o e, r⟩, hm⟩
theorem Nl.of {h : Heap} {L : Addr} {l l' : List (Str × Value)} (hn : h.Ns L (fun x => l.lookup x)) (e : l'.map (fun p => l.lookup p.1) = l'.map (fun p => some p.2)) : Nl h L l' := Nl.sub (l := l) ⟨_, hn, fun _ _ z => z⟩ e
/-- what stands at L is a dict's data -/
theorem Nl.dict {h : Heap} {L : Addr} {l : List (Str × Value)} (N : Nl h L l) : ∃ o es ep, h.get? L = some o ∧ o.data = .dict es ep := by
  obtain ⟨m, ⟨o, es, ep, e, d, _⟩, hm⟩ := N
  exact ⟨o, es, ep, e, d⟩
theorem Nl.lt {h : Heap} {L : Nat} {l : List (Str × Value)} (N : Nl h L l) : L < h.objs.size := by
  obtain ⟨o, _, _, e, _⟩ := N.dict
  exact Heap.lt_size e
section
variable {w : World} {A : Around} {s : Shared} {env : Env} {pos p : Pos} {x : Str} {l l' : List (Str × Value)} {v : Value}
theorem ld {Q : Value → Shared → Prop} (f : Fm env) (N : Nl s.heap env.locals l) (e : l.lookup x = some v) (hl : env.kindOf x = some .local) (hd : (x == ("__debug__" : Str)) = false) (h : Q v s) : wpN w A (eval (.Name x pos) env) Q s := by
  obtain ⟨m, hn, hm⟩ := N
  exact ev_loc f.kind hl hn (hm _ _ e) h hd
theorem ldn {Q : Value → Shared → Prop} (f : Fm env) (N : Nl s.heap env.locals l) (e : l.lookup x = some v) (hl : env.kindOf x = some .local) (h : Q v s) : wpN w A (loadName env x) Q s := by
  obtain ⟨m, hn, hm⟩ := N
  exact wpAny_loadName_local f.kind hl hn (hm _ _ e) h
theorem st {Q : Unit → Shared → Prop} (f : Fm env) (N : Nl s.heap env.locals l) (hl : env.kindOf x = some .local) (e : l'.map (fun p => ((x, v) :: l).lookup p.1) = l'.map (fun p => some p.2))
    (h : ∀ h', Nl h' env.locals l' → Heap.SameBut env.locals s.heap h' → Q () { s with heap := h', toks := s.toks + 1 }) : wpN w A (storeName env x v) Q s := by
  obtain ⟨m, hn, hm⟩ := N
  refine wpAny_storeName_local hl hn (fun h' hn' hs => h h' ?_ hs) (by rw [f.kind]; rfl)
  refine Nl.sub (l := (x, v) :: l) ⟨_, hn', fun y u hy => ?_⟩ e
  rw [List.lookup_cons] at hy
  by_cases q : (y == x) = true
  · rw [q] at hy
    rw [beq_iff_eq] at q
    rw [if_pos q]; exact hy
  · simp only [Bool.not_eq_true] at q
    rw [q] at hy
    rw [if_neg (by rintro rfl; simp at q)]
    exact hm _ _ hy
theorem assignN {Q : Unit → Shared → Prop} (f : Fm env) (N : Nl s.heap env.locals l) (hl : env.kindOf x = some .local) (e : l'.map (fun p => ((x, v) :: l).lookup p.1) = l'.map (fun p => some p.2))
    (h : ∀ h', Nl h' env.locals l' → Heap.SameBut env.locals s.heap h' → Q () { s with heap := h', toks := s.toks + 1 }) : wpN w A (assign (.Name x pos) env v) Q s := wpAny_assign_Name (st f N hl e h)
/-- x = e -/
theorem asg {value : Expr} {pos' : Pos} {Q : Flow → Shared → Prop} (h : wpN w A (eval value env) (fun v s₁ => wpN w A (storeName env x v) (fun _ => Q .next) s₁) s)
    (hs : swapsWith value (some (.Name x pos')) pos.line env = pure false) : wpN w A (exec (.Assign [.Name x pos'] value pos) env) Q s := wpAny_Assign_Name h hs
theorem seqn {st : Stmt} {rest : List Stmt} {Q : Flow → Shared → Prop} (h : wpN w A (exec st env) (fun f s' => match f with | .next => wpN w A (execs rest env) Q s' | f => Q f s') s) : wpN w A (execs (st :: rest) env) Q s := wpAny_execs_cons h
end
end Mine
end

/-! F0 -/
section
open PySem PySem.W PySem.W.X PyProof.Rows PySem.Calls
open Sem (wp)
set_option Elab.async false
set_option maxRecDepth 100000
set_option maxHeartbeats 1000000
namespace Mine
theorem ltN {h : Heap} {a : Nat} {o : Obj} (e : h.get? a = some o) : a < h.objs.size := Heap.lt_size e
theorem neN {a b : Nat} (h : a ≠ b) : @Ne Addr a b := h
theorem ni1 {a b : Nat} (h : a ≠ b) : a ∉ [b] := by simpa using h
theorem ni2 {a b c : Nat} (h : a ≠ b ∧ a ≠ c) : a ∉ [b, c] := by simpa using h
theorem al1 {n b : Nat} (h : n ≤ b) : ∀ a ∈ [b], n ≤ a := by simpa using h
theorem Cx.size {w : World} {h : Heap} (c : Cx w h) : 135 ≤ h.objs.size := Heap.lt_size (c.k _ _ (kLA _))
theorem Go.get {s s' : Shared} {a : Addr} {o : Obj} (G : Go [] s s') (h : s.heap.get? a = some o) (ha : 135 ≤ a) : s'.heap.get? a = some o :=
  G.keep a o (by simp) (by rintro rfl; exact absurd ha (by decide)) (by rintro rfl; exact absurd ha (by decide)) h
theorem Go.ext {W wr : List Addr} {s₀ s : Shared} {h' : Heap} {tk : Nat} (G : Go W s₀ s) (hk : ∀ b o, b ∉ wr → s.heap.get? b = some o → h'.get? b = some o) (hw : ∀ b ∈ wr, s₀.heap.objs.size ≤ b) : Go W s₀ { s with heap := h', toks := tk } :=
  ⟨fun a o hn h7 h8 e => hk a o (fun hm => absurd (Heap.lt_size e) (Nat.not_lt.mpr (hw a hm))) (G.keep a o hn h7 h8 e), G.gens, G.dr, G.os, fun t => (G.tab t).keeps (fun o e => hk _ o (fun hm => absurd t.lt.1 (Nat.not_lt.mpr (hw _ hm))) e) fun o e => hk _ o (fun hm => absurd t.lt.2 (Nat.not_lt.mpr (hw _ hm))) e⟩
theorem Go.same {W : List Addr} {s₀ s : Shared} {h' : Heap} {tk : Nat} {a : Addr} (G : Go W s₀ s) (hs : Heap.SameBut a s.heap h') (hw : s₀.heap.objs.size ≤ a) : Go W s₀ { s with heap := h', toks := tk } :=
  G.ext (wr := [a]) (fun b o hb e => hs.extBut b o (fun q => hb (by simp [q])) e) (by simpa using hw)
theorem Go.new {W : List Addr} {s₀ s : Shared} {h' : Heap} {tk : Nat} (G : Go W s₀ s) (hk : ∀ b o, s.heap.get? b = some o → h'.get? b = some o) : Go W s₀ { s with heap := h', toks := tk } :=
  G.ext (wr := []) (fun b o _ e => hk b o e) (by simp)
theorem Nl.go {s s' : Shared} {L : Addr} {l : List (Str × Value)} (N : Nl s.heap L l) (G : Go [] s s') (hL : 135 ≤ L) : Nl s'.heap L l := N.keeps fun _ e => G.get e hL
theorem Nl.but {h h' : Heap} {L a : Addr} {l : List (Str × Value)} (N : Nl h L l) (hs : Heap.SameBut a h h') (hne : L ≠ a) : Nl h' L l := N.keeps fun o e => hs.extBut L o hne e
section
variable {w : World} {A : Around} {s : Shared} {env : Env}
theorem D.cut {α : Type} {t : Sem α} {Q : α → Shared → Prop} (F : Shared → Prop) (h : F s) (k : ∀ s, F s → wpD w A t Q s) : wpD w A t Q s := k s h
theorem N.cut {α : Type} {t : Sem α} {Q : α → Shared → Prop} (F : Shared → Prop) (h : F s) (k : ∀ s, F s → wpN w A t Q s) : wpN w A t Q s := k s h
theorem D.enter {f : Addr} {fd : FuncData} {args : List Value} {st : Stmt} {Q : Value → Shared → Prop} (binds l : List (Str × Value)) (c : Cx w s.heap) (hf : (KF w.params).lookup f = some (fnO fd)) (hb : fd.body = .stmts (fnB st))
    (hcd : codeIn (KF w.params) fd.code fd.qualname = true) (hroom : A.depth < recursionLimit) (hbind : bindArgs fd ⟨args, []⟩ = Pure.pure binds)
    (hcell : (fd.scope.names.all fun x => x.2 != .cell) = true) (hloc : (binds.all fun x => decide (fd.scope.names.lookup x.1 = some .local)) = true) (hsc : (fd.scope.isCoroutine, fd.scope.isGenerator, fd.scope.kind) = (false, false, .function))
    (hl : l.map (fun p => binds.reverse.lookup p.1) = l.map (fun p => some p.2))
    (h : ∀ (L : Nat) (s1 : Shared), s.heap.objs.size = L → 135 ≤ L → Nl s1.heap L l → Go [] s s1 → Cx w s1.heap →
      wpD w (A.deeper (callEnv fd L f)) (execs (fnB st) (callEnv fd L f)) (fun fl s' => Q (match fl with | .ret v => v | _ => .none) s') s1) :
    wpD w A (PySem.call (.ref f) args) Q s :=
  D.call_def c hf hb hcd hroom hbind hcell hloc hsc fun h₀ hns hk =>
    h _ { s with heap := h₀, toks := s.toks + binds.length } rfl c.size (Nl.of hns hl) (.of_keeps hk) ((Go.of_keeps (W := []) (tk := s.toks + binds.length) hk).cx (by simp) c)
theorem N.enter {f : Addr} {fd : FuncData} {args : List Value} {st : Stmt} {Q : Value → Shared → Prop} (binds l : List (Str × Value)) (c : Cx w s.heap) (hf : (KF w.params).lookup f = some (fnO fd)) (hb : fd.body = .stmts (fnB st))
    (hcd : codeIn (KF w.params) fd.code fd.qualname = true) (hroom : A.depth < recursionLimit) (hbind : bindArgs fd ⟨args, []⟩ = Pure.pure binds)
    (hcell : (fd.scope.names.all fun x => x.2 != .cell) = true) (hloc : (binds.all fun x => decide (fd.scope.names.lookup x.1 = some .local)) = true) (hsc : (fd.scope.isCoroutine, fd.scope.isGenerator, fd.scope.kind) = (false, false, .function))
    (hl : l.map (fun p => binds.reverse.lookup p.1) = l.map (fun p => some p.2))
    (h : ∀ (L : Nat) (s1 : Shared), s.heap.objs.size = L → 135 ≤ L → Nl s1.heap L l → Go [] s s1 → Cx w s1.heap →
      wpN w (A.deeper (callEnv fd L f)) (execs (fnB st) (callEnv fd L f)) (fun fl s' => Q (match fl with | .ret v => v | _ => .none) s') s1) :
    wpN w A (PySem.call (.ref f) args) Q s :=
  call_def c hf hb hcd hroom hbind hcell hloc hsc fun h₀ hns hk =>
    h _ { s with heap := h₀, toks := s.toks + binds.length } rfl c.size (Nl.of hns hl) (.of_keeps hk) ((Go.of_keeps (W := []) (tk := s.toks + binds.length) hk).cx (by simp) c)
theorem sub_bytes {b : Array UInt8} {i : Int} {t u : Tok} {Q : Value → Shared → Prop} (hz : b.size ≤ 1000) (h0 : 0 ≤ i) (h1 : i < b.size) (h : Q (.int (b.getD i.toNat 0).toNat s.toks) { s with toks := s.toks + 1 }) :
    SubscriptOn (model pr w) A (.bytes b t) (.int i u) Q No s := by
  refine ⟨"bytes", _, FB.slot_bytes_getitem.lookup, typeIs_bytes s b t, ?_⟩
  have := getItem_bytes (prog := pr) (w := w) (A := A) (E := No) (s := s) (t := t) (u := u) (l := b.toList) (i := i) (Q := Q) (by simp; (first | lia | omega)) h0 (by simpa using h1)
  rw [Array.toArray_toList] at this
  refine this ?_
  have e : b.toList.getD i.toNat 0 = b.getD i.toNat 0 := by simp
  rw [e]; exact h
theorem len_b {b : Array UInt8} {t : Tok} {Q : Value → Shared → Prop} (hz : b.size ≤ 1000) (h : ∀ t tk, Q (.int b.size t) { s with toks := tk }) : wpN w A (call (.builtin "len") [.bytes b t]) Q s := len_bytes (by (first | lia | omega)) (h _ _)
end
end Mine
end

/-! F1 -/
section
open PySem PySem.W PySem.W.X PyProof.Rows PySem.Calls
open Sem (wp)
set_option Elab.async false
set_option maxRecDepth 100000
set_option maxHeartbeats 1000000
namespace Mine
abbrev eBS (L : Addr) : Env := callEnv fdBS L 28
theorem fmBS (L : Addr) : Fm (eBS L) := ⟨rfl, rfl, rfl⟩

theorem u8_back (x : UInt8) : ((x.toNat : Nat) : Int).toNat.toUInt8 = x := by
  show UInt8.ofNat x.toNat = x
  exact UInt8.ofNat_toNat
theorem uv {wd u v i k : Nat} (hv : v < wd) (hk : k < wd) (e : u * wd + v = i * wd + k) : u = i ∧ v = k := by
  have hw : 0 < wd := by (first | lia | omega)
  have a1 : (u * wd + v) / wd = u := by rw [Nat.mul_comm, Nat.mul_add_div hw, Nat.div_eq_of_lt hv]; simp
  have a2 : (i * wd + k) / wd = i := by rw [Nat.mul_comm, Nat.mul_add_div hw, Nat.div_eq_of_lt hk]; simp
  have : u = i := by rw [← a1, e, a2]
  subst this
  exact ⟨rfl, by (first | lia | omega)⟩
theorem le_blk {i q wd v : Nat} (hi : i < q) (hv : v < wd) : i * wd + v < q * wd := by
  have : (i + 1) * wd ≤ q * wd := Nat.mul_le_mul_right _ hi
  rw [Nat.add_mul] at this
  (first | lia | omega)

/-- what is done of a swap: the first i words, and j octets of the next -/
def Swp (b r : Array UInt8) (wd q i j : Nat) : Prop := r.size = b.size ∧ ∀ u v, u < q → v < wd → (u < i ∨ u = i ∧ wd - 1 - v < j) → r[u * wd + v]? = b[u * wd + (wd - 1 - v)]?
theorem Swp.step {b r : Array UInt8} {wd q i j : Nat} (S : Swp b r wd q i j) (hb : b.size = q * wd) (hi : i < q) (hj : j < wd) : Swp b (r.setIfInBounds (i * wd + (wd - 1 - j)) (b.getD (i * wd + j) 0)) wd q i (j + 1) := by
  have lt : i * wd + (wd - 1 - j) < q * wd := le_blk hi (by (first | lia | omega))
  have lt2 : i * wd + j < q * wd := le_blk hi hj
  refine ⟨by simp [S.1], fun u v hu hv hc => ?_⟩
  by_cases e : u * wd + v = i * wd + (wd - 1 - j)
  · obtain ⟨rfl, rfl⟩ := uv hv (by (first | lia | omega)) e
    have e2 : wd - 1 - (wd - 1 - j) = j := by (first | lia | omega)
    rw [e2, Array.getElem?_setIfInBounds_self_of_lt (by rw [S.1, hb]; exact lt)]
    rw [Array.getD_eq_getD_getElem?, Array.getElem?_eq_getElem (by rw [hb]; exact lt2)]; rfl
  · rw [Array.getElem?_setIfInBounds_ne (by (first | lia | omega))]
    refine S.2 u v hu hv ?_
    rcases hc with h | ⟨rfl, h⟩
    · exact .inl h
    · by_cases q : wd - 1 - v = j
      · exact absurd (by rw [← q]; congr 1; (first | lia | omega)) e
      · exact .inr ⟨rfl, by (first | lia | omega)⟩
theorem Swp.next {b r : Array UInt8} {wd q i : Nat} (S : Swp b r wd q i wd) : Swp b r wd q (i + 1) 0 := by
  refine ⟨S.1, fun u v hu hv hc => S.2 u v hu hv ?_⟩
  rcases hc with h | ⟨_, h⟩
  · by_cases e : u < i
    · exact .inl e
    · exact .inr ⟨by (first | lia | omega), by (first | lia | omega)⟩
  · (first | lia | omega)
section
variable {w : World} {A : Around} {s : Shared}
local macro_rules | `(tactic| x_close) => `(tactic| (repeat (first | with_reducible refine wpAny_BinOp ?_ | ((with_reducible apply ld (fmBS _)); assumption; rfl; rfl; rfl) | with_reducible refine wpAny_Constant_int ?_ | with_reducible refine add_int ?_ | with_reducible refine sub_int ?_)))

theorem byteswap {b : Array UInt8} {wd q : Nat} {tb tw : Tok} {Q : Value → Shared → Prop} (c : Cx w s.heap) (r : Rm 3 A) (hw : 0 < wd) (hb : b.size = q * wd) (hz : b.size ≤ 100) (hz2 : wd ≤ 100)
    (hQ : ∀ b' tk s', Swp b b' wd q q 0 → Go [] s s' → Q (.bytes b' tk) s') :
    wpD w A (PySem.call (.ref 28) [.bytes b tb, .int wd tw]) Q s := by
  refine D.enter [("data", .bytes b tb), ("width", .int wd tw)] [("data", .bytes b tb), ("width", .int wd tw)] c (kBS _) (st := topS 2) rfl (by kernel_rfl) r.room (by kernel_rfl) (by kernel_rfl) (by kernel_rfl) (by kernel_rfl) (by kernel_rfl) fun L s0 hLd hL N0 G0 c0 => ?_
  have lt0 := N0.lt
  have r := r.deeper (env := eBS L)
  -- swapped_data = bytearray(len(data))
  refine D.execs_cons (D.assign (D.callT (fmBS L) c0 rfl (b_bytearray _) rfl rfl rfl (sp1 rfl (callB (fmBS L) c0 rfl (b_len _) rfl rfl rfl (sp1 rfl ?_)))) (by rfl))
  x_close
  refine len_b (by (first | lia | omega)) fun t tk => baD_call (by (first | lia | omega)) fun h1 ha hk1 => ?_
  have hLa : L ≠ s0.heap.objs.size := Nat.ne_of_lt lt0
  refine st (fmBS L) (N0.keeps fun o e => hk1 _ _ e) rfl (l' := [("data", .bytes b tb), ("width", .int wd tw), ("swapped_data", .ref s0.heap.objs.size)]) (by kernel_rfl) fun h2 N2 hs2 => ?_
  refine D.cut (F := fun s1 => Nl s1.heap L [("data", .bytes b tb), ("width", .int wd tw), ("swapped_data", .ref s0.heap.objs.size)] ∧ s1.heap.get? s0.heap.objs.size = some (baO (Array.replicate b.size 0)) ∧ Go [] s s1)
    ⟨N2, hs2.extBut _ _ (Ne.symm hLa) ha, (G0.new (tk := tk) hk1).same (tk := tk + 1) hs2 (Nat.le_of_eq hLd)⟩ ?_
  clear N2 hs2 ha hk1 N0 G0
  generalize s0.heap.objs.size = a at *
  have lt0 : (L : Nat) < a := lt0
  rintro s1 ⟨N1, ha1, G1⟩
  have c1 := G1.cx (by simp) c
  have lta : (a : Nat) < _ := Heap.lt_size ha1
  refine D.execs_cons (D.of (exec_for (callT (fmBS L) c1 rfl (b_range _) rfl rfl rfl (sp3 rfl ?_)) (fun _ => rfl)))
  x_close
  refine callB (fmBS L) c1 rfl (b_len _) rfl rfl rfl (sp1 rfl ?_)
  x_close
  refine len_b (by (first | lia | omega)) fun t tk => ?_
  x_close
  rw [hb]
  refine range3 hw (by (first | lia | omega)) (by (first | lia | omega)) fun I h3 tk3 hI hIs hk3 => ?_
  have hIs : s1.heap.objs.size ≤ I := hIs
  refine for_rule (Walks.range r.h I 0 wd q) (fun i s2 => ∃ arr, Swp b arr wd q i 0 ∧ Nl s2.heap L [("data", .bytes b tb), ("width", .int wd tw), ("swapped_data", .ref a)] ∧ s2.heap.get? a = some (baO arr) ∧ Go [] s s2) ?_ ?_ hI ?_ ?_
  · rintro i s2 h' tk ⟨arr, hS, N2, ha2, G2⟩ hk
    exact ⟨arr, hS, N2.keeps fun o e => hk _ _ (ni1 (by (first | lia | omega))) e, hk _ _ (ni1 (by (first | lia | omega))) ha2, G2.ext hk (al1 (by (first | lia | omega)))⟩
  · rintro i v s2 hi ⟨tv, rfl⟩ hSt ⟨arr, hS, N2, ha2, G2⟩
    have hIz : (I : Nat) < _ := Heap.lt_size hSt
    refine wpAny_pure (assignN (fmBS L) N2 rfl (l' := [("data", .bytes b tb), ("width", .int wd tw), ("swapped_data", .ref a), ("i", .int (0 + i * wd) tv)]) (by kernel_rfl) fun h4 N4 hs4 => ?_)
    have ha4 := hs4.extBut _ _ (Ne.symm hLa) ha2
    have hz4 : (I : Nat) < h4.objs.size := Heap.lt_size (hs4.extBut _ _ (by show (I : Nat) ≠ L; (first | lia | omega)) hSt)
    have G4 := G2.same (tk := s2.toks + 1) hs4 (Nat.le_of_eq hLd)
    have c4 := G4.cx (by simp) c
    have hSt4 := hs4.extBut _ _ (by show (I : Nat) ≠ L; (first | lia | omega)) hSt
    refine seqn (exec_for (callT (fmBS L) c4 rfl (b_range _) rfl rfl rfl (sp1 rfl ?_)) (fun _ => rfl))
    x_close
    refine range1 (by (first | lia | omega)) fun I2 h5 tk5 hI2 hIs2 hk5 => ?_
    have hII : (I : Nat) < I2 := Nat.lt_of_lt_of_le hz4 hIs2
    refine for_rule (Walks.range r.h I2 0 1 wd) (fun j s5 => ∃ arr, Swp b arr wd q i j ∧ Nl s5.heap L [("data", .bytes b tb), ("width", .int wd tw), ("swapped_data", .ref a), ("i", .int (0 + i * wd) tv)] ∧ s5.heap.get? a = some (baO arr) ∧ Go [] s s5 ∧ ∀ o, s2.heap.get? I = some o → s5.heap.get? I = some o) ?_ ?_ hI2 ?_ ?_
    · rintro j s5 h' tk ⟨arr, hS, N5, ha5, G5, hI5⟩ hk
      exact ⟨arr, hS, N5.keeps fun o e => hk _ _ (ni1 (by (first | lia | omega))) e, hk _ _ (ni1 (by (first | lia | omega))) ha5, G5.ext hk (al1 (by (first | lia | omega))), fun o e => hk _ _ (ni1 (by (first | lia | omega))) (hI5 o e)⟩
    · rintro j v s5 hj ⟨tj, rfl⟩ hSt2 ⟨arr, hS, N5, ha5, G5, hI5⟩
      refine wpAny_pure (assignN (fmBS L) N5 rfl (l' := [("data", .bytes b tb), ("width", .int wd tw), ("swapped_data", .ref a), ("i", .int (0 + i * wd) tv), ("j", .int (0 + j * 1) tj)]) (by kernel_rfl) fun h6 N6 hs6 => ?_)
      have ha6 := hs6.extBut _ _ (Ne.symm hLa) ha5
      have G6 := G5.same (tk := s5.toks + 1) hs6 (Nat.le_of_eq hLd)
      refine seqn (wpAny_Assign_Subscript (wpAny_Subscript_BinOp_late ?_))
      x_close
      have lt1 : i * wd + j < q * wd := le_blk hi hj
      have lt2 : i * wd + (wd - 1 - j) < q * wd := le_blk hi (by (first | lia | omega))
      have e1 : (0 + (i : Int) * wd + (0 + j * 1)) = ((i * wd + j : Nat) : Int) := by push_cast; (first | lia | omega)
      have e2 : (0 + (i : Int) * wd + wd - 1 - (0 + j * 1)) = ((i * wd + (wd - 1 - j) : Nat) : Int) := by push_cast; (first | lia | omega)
      refine sub_bytes (by (first | lia | omega)) (by (first | lia | omega)) (by rw [e1]; (first | lia | omega)) ?_
      x_close
      rw [e1, e2]
      have hsz : arr.size = q * wd := by rw [hS.1, hb]
      refine ba_set ha6 (by (first | lia | omega)) (by (first | lia | omega)) (by (first | lia | omega)) (by (first | lia | omega)) (Int.ofNat_lt.mpr (UInt8.toNat_lt _)) fun h7 ha7 hs7 => ?_
      have e3 : ((i * wd + (wd - 1 - j) : Nat) : Int).toNat = i * wd + (wd - 1 - j) := rfl
      have e4 : (((b.getD ((i * wd + j : Nat) : Int).toNat 0).toNat : Nat) : Int).toNat.toUInt8 = b.getD (i * wd + j) 0 := u8_back _
      rw [e3, e4] at ha7
      refine wpAny_execs_nil ⟨rfl, ⟨_, hS.step hb hi hj, ?_, ha7, ?_, ?_⟩, ?_⟩
      · exact (N6.but hs7 hLa).sub (by kernel_rfl)
      · exact G6.same hs7 (by (first | lia | omega))
      · exact fun o e => hs7.extBut _ _ (by show (I : Nat) ≠ a; (first | lia | omega)) (hs6.extBut _ _ (by show (I : Nat) ≠ L; (first | lia | omega)) (hI5 o e))
      · intro b' hb' o e
        have e' : b' = I2 := by simpa using hb'
        rw [e'] at e ⊢
        exact hs7.extBut _ _ (by show (I2 : Nat) ≠ a; (first | lia | omega)) (hs6.extBut _ _ (by show (I2 : Nat) ≠ L; (first | lia | omega)) e)
    · exact ⟨arr, hS, N4.keeps fun o e => hk5 _ _ e, hk5 _ _ ha4, G4.new hk5, fun o e => hk5 _ _ (hs4.extBut _ _ (by show (I : Nat) ≠ L; (first | lia | omega)) e)⟩
    · rintro s5 ⟨arr, hS, N5, ha5, G5, hI5⟩
      refine wpAny_execs_nil ⟨rfl, ⟨arr, hS.next, N5.sub (by kernel_rfl), ha5, G5⟩, ?_⟩
      intro b' hb' o e
      obtain rfl : b' = I := by simpa using hb'
      exact hI5 o e
  · exact ⟨_, ⟨by simp, fun u v hu hv hc => by (first | lia | omega)⟩, N1.keeps fun o e => hk3 _ _ e, hk3 _ _ ha1, G1.new hk3⟩
  · rintro s2 ⟨arr, hS, N2, ha2, G2⟩
    have c2 := G2.cx (by simp) c
    refine D.execs_cons (D.of (wpAny_Return_some (callT (fmBS L) c2 rfl (b_bytes _) rfl rfl rfl (sp1 rfl ?_))))
    x_close
    refine wp_std r (by_ba0 ha2 (by rw [hS.1]; (first | lia | omega)) fun tk h' tk' hk => hQ _ _ _ hS (G2.new hk))
end
end Mine
end

/-! Su -/
section
open PySem PySem.W PySem.W.X PyProof.Rows PySem.Calls
open Sem (wp)
set_option Elab.async false
set_option maxRecDepth 100000
set_option maxHeartbeats 1000000
namespace Mine
theorem s_mget : Slot "method_descriptor" "__get__" "method_descriptor.__get__" := .of (owner := "method_descriptor") (n := "__get__") (by rw [typeLookup_type, builtinLookup_eq_fast]; kernel_rfl) (by decide +kernel) (by decide +kernel) (by decide +kernel)
  (by first | exact .inl (by decide +kernel) | exact .inr (by decide +kernel)) (by rw [isSubtype_type]; kernel_rfl)
theorem e_mget : entryFor table "method_descriptor.__get__" = some Builtin.«method_descriptor.__get__» := entryFor_of_tree (by kernel_rfl)
theorem a_mget (a b c : Value) : argsOk "method_descriptor.__get__" ⟨[a, b, c], []⟩ := by unfold argsOk; kernel_rfl
theorem s_wget : Slot "wrapper_descriptor" "__get__" "wrapper_descriptor.__get__" := .of (owner := "wrapper_descriptor") (n := "__get__") (by rw [typeLookup_type, builtinLookup_eq_fast]; kernel_rfl) (by decide +kernel) (by decide +kernel) (by decide +kernel)
  (by first | exact .inl (by decide +kernel) | exact .inr (by decide +kernel)) (by rw [isSubtype_type]; kernel_rfl)
theorem e_wget : entryFor table "wrapper_descriptor.__get__" = some Builtin.«wrapper_descriptor.__get__» := entryFor_of_tree (by kernel_rfl)
theorem a_wget (a b c : Value) : argsOk "wrapper_descriptor.__get__" ⟨[a, b, c], []⟩ := by unfold argsOk; kernel_rfl
def bndO (T id : String) (x : Addr) : Obj := { cls := .type T, data := .fields #[.builtin id, .ref x] }
section
variable {w : World} {A : Around} {s : Shared} {x d : Addr} {xs : Array Value}
theorem t_pop : typeOf (.builtin "list.pop") = pure (.type "method_descriptor") := by kernel_rfl
theorem t_len : typeOf (.builtin "list.__len__") = pure (.type "wrapper_descriptor") := by kernel_rfl
theorem t_init : typeOf (.builtin "list.__init__") = pure (.type "wrapper_descriptor") := by kernel_rfl

theorem acc_list (c : Cx w s.heap) (a : Acc s.heap x d xs) : Looks (model pr w) s.heap (isInstance (.ref x) (.type "list")) true := (acc_type a).andThen (looks_mroIn c.k (m_list _))

theorem wget_len {Q : Fin → Shared → Prop} {E : Value → Shared → Prop} {o : Obj} (ho : s.heap.get? x = some o) (hc : o.cls = .ref 108) (hi : Looks (model pr w) s.heap (isSubtype (.ref 108) (.type "list")) true)
    (h : Q (.done (.ret (.ref s.heap.objs.size))) { s with heap := s.heap.push (bndO "method-wrapper" "list.__len__" x) }) :
    wpAny (model pr w) A (Builtin.«wrapper_descriptor.__get__» ⟨[.builtin "list.__len__", .ref x, .ref 108], []⟩) Q E s := by
  obtain ⟨hp, g, dd, t, os⟩ := s
  have e : ".".intercalate ("list.__len__".cutAt '.').dropLast = "list" := by decide +kernel
  unfold Builtin.«wrapper_descriptor.__get__»
  repeat (first | (with_reducible refine wpAny_loadPart_at ho ?_; rw [hc]) | (rw [e]; refine Looks.at hi ?_) | wp_step)
  all_goals exact h
theorem wget_init {Q : Fin → Shared → Prop} {E : Value → Shared → Prop} {o : Obj} (ho : s.heap.get? x = some o) (hc : o.cls = .ref 108) (hi : Looks (model pr w) s.heap (isSubtype (.ref 108) (.type "list")) true)
    (h : Q (.done (.ret (.ref s.heap.objs.size))) { s with heap := s.heap.push (bndO "method-wrapper" "list.__init__" x) }) :
    wpAny (model pr w) A (Builtin.«wrapper_descriptor.__get__» ⟨[.builtin "list.__init__", .ref x, .ref 108], []⟩) Q E s := by
  obtain ⟨hp, g, dd, t, os⟩ := s
  have e : ".".intercalate ("list.__init__".cutAt '.').dropLast = "list" := by decide +kernel
  unfold Builtin.«wrapper_descriptor.__get__»
  repeat (first | (with_reducible refine wpAny_loadPart_at ho ?_; rw [hc]) | (rw [e]; refine Looks.at hi ?_) | wp_step)
  all_goals exact h
theorem mget_pop {Q : Fin → Shared → Prop} {E : Value → Shared → Prop} {o : Obj} (ho : s.heap.get? x = some o) (hc : o.cls = .ref 108) (hi : Looks (model pr w) s.heap (isSubtype (.ref 108) (.type "list")) true)
    (h : Q (.done (.ret (.ref s.heap.objs.size))) { s with heap := s.heap.push (bndO "builtin_function_or_method" "list.pop" x) }) :
    wpAny (model pr w) A (Builtin.«method_descriptor.__get__» ⟨[.builtin "list.pop", .ref x, .ref 108], []⟩) Q E s := by
  obtain ⟨hp, g, dd, t, os⟩ := s
  have e : ".".intercalate ("list.pop".cutAt '.').dropLast = "list" := by decide +kernel
  unfold Builtin.«method_descriptor.__get__»
  repeat (first | (with_reducible refine wpAny_loadPart_at ho ?_; rw [hc]) | (rw [e]; refine Looks.at hi ?_) | wp_step)
  all_goals exact h
end
end Mine
end

/-! Su2 -/
section
open PySem PySem.W PySem.W.X PyProof.Rows PySem.Calls
open Sem (wp)
set_option Elab.async false
set_option maxRecDepth 100000
set_option maxHeartbeats 1000000
namespace Mine
def supO (x : Addr) : Obj := { cls := .type "super", dict := none, data := .fields #[.ref 108, .ref x, .ref 108], slots := #[] }
section
variable {w : World} {A : Around} {E : Value → Shared → Prop} {h : Heap} {g : Array GenState} {d : Drawn} {t : Nat} {os : OsState} {x so : Addr}
theorem super_ga {id T gid B : String} {Bg : Builtin} {l₀ l : List Value} {K : Frag} {name : Str} {tk : Tok} {Q : Fin → Shared → Prop}
    (hso : h.get? so = some (supO x)) (hno : Looks (model pr w) h (opaqueClassAbove (.ref 108)) none)
    (hC : Looks (model pr w) h (mroOf (.ref 108)) l₀) (hl : (l₀.dropWhile (· != .ref 108)).drop 1 = l) (X : K.In h)
    (hf : alongIn K name l = some (some (.builtin id))) (hT : typeOf (.builtin id) = pure (.type T)) (hS : Slot T "__get__" gid) (hE : entryFor table gid = some Bg) (hA : ∀ a b c, argsOk gid ⟨[a, b, c], []⟩)
    (hg : ∀ (A' : Around) (Q' : Fin → Shared → Prop) (E' : Value → Shared → Prop), Q' (.done (.ret (.ref h.objs.size))) ⟨h.push (bndO B id x), g, d, t, os⟩ → wpAny (model pr w) A' (Bg ⟨[.builtin id, .ref x, .ref 108], []⟩) Q' E' ⟨h, g, d, t, os⟩)
    (hxC : x ≠ 108) (hn : (name == ("__class__" : Str)) = false)
    (hq : Q (.done (.ret (.ref h.objs.size))) ⟨h.push (bndO B id x), g, d, t, os⟩) :
    wpAny (model pr w) A (Builtin.«super.__getattribute__» ⟨[.ref so, .str name tk], []⟩) Q E ⟨h, g, d, t, os⟩ := by
  have hlk := hS.lookup
  have hne : (Value.ref x == Value.ref 108) = false := by simp [hxC]
  have hTf : (⟨h, g, d, t, os⟩ : Shared).TypeIs (.builtin id) T := hT
  have hdt : (supO x).data = .fields #[.ref 108, .ref x, .ref 108] := rfl
  have f0 : (#[.ref 108, .ref x, .ref 108] : Array Value)[0]? = some (.ref 108) := rfl
  have f1 : (#[.ref 108, .ref x, .ref 108] : Array Value)[1]? = some (.ref x) := rfl
  have f2 : (#[.ref 108, .ref x, .ref 108] : Array Value)[2]? = some (.ref 108) := rfl
  unfold Builtin.«super.__getattribute__»
  repeat (first
    | (with_reducible refine wpAny_field hso hdt f0 ?_) | (with_reducible refine wpAny_field hso hdt f1 ?_) | (with_reducible refine wpAny_field hso hdt f2 ?_)
    | (with_reducible refine ks_wpAny_notOpaque hno ?_)
    | (with_reducible refine Looks.at hC ?_; rw [hl])
    | (refine ks_forIn_along X (fun _ _ => rfl) rfl ?_ hf)
    | (with_reducible refine wpAny_typeOf hTf ?_)
    | (with_reducible refine wpAny_call_entry hS hTf hE ?_ (hA _ _ _))
    | (with_reducible refine hg _ _ _ ?_)
    | (with_reducible refine ⟨_, rfl, ?_⟩)
    | (simp only [hn, hne, Bool.or_false, Bool.false_eq_true, if_false])
    | wp_step
    | dsimp only)
  all_goals exact hq

theorem super_gm {id T gid B : String} {Bg : Builtin} {l₀ l : List Value} {K : Frag} {name : Str} {pl : Sem Bool} {Q : Value × List Value → Shared → Prop}
    (hso : h.get? so = some (supO x)) (hno : Looks (model pr w) h (opaqueClassAbove (.ref 108)) none)
    (hC : Looks (model pr w) h (mroOf (.ref 108)) l₀) (hl : (l₀.dropWhile (· != .ref 108)).drop 1 = l) (X : K.In h)
    (hf : alongIn K name l = some (some (.builtin id))) (hT : typeOf (.builtin id) = pure (.type T)) (hS : Slot T "__get__" gid) (hE : entryFor table gid = some Bg) (hA : ∀ a b c, argsOk gid ⟨[a, b, c], []⟩)
    (hg : ∀ (A' : Around) (Q' : Fin → Shared → Prop) (E' : Value → Shared → Prop), Q' (.done (.ret (.ref h.objs.size))) ⟨h.push (bndO B id x), g, d, t + 1, os⟩ → wpAny (model pr w) A' (Bg ⟨[.builtin id, .ref x, .ref 108], []⟩) Q' E' ⟨h, g, d, t + 1, os⟩)
    (hxC : x ≠ 108) (hn : (name == ("__class__" : Str)) = false)
    (hq : Q (.ref h.objs.size, []) ⟨h.push (bndO B id x), g, d, t + 1, os⟩) :
    wpAny (model pr w) A (getMethod (.ref so) name pl) Q E ⟨h, g, d, t, os⟩ := by
  have hlk := F.ks_slot_super_ga.lookup
  have hcan := F.ks_canon_super_ga
  have hTs : ∀ t', (⟨h, g, d, t', os⟩ : Shared).TypeIs (.ref so) "super" := fun _ => ⟨_, hso, rfl⟩
  unfold getMethod
  refine wpAny_bind (wpAny_specialOf (hTs _) hlk ?_)
  show wpAny _ _ (if (Manifest.canonical "super.__getattribute__" != "object.__getattribute__") = true then _ else _) _ _ _
  rw [if_pos hcan]
  unfold getAttr getAttrBy
  refine wpAny_bind (wpAny_bind (wpAny_mkText (wpAny_holding (wpAny_bind (wpAny_typeOf (hTs _) (wpAny_bind (wpAny_of_eq hlk ?_)))))))
  show wpAny _ _ (getAttrByItsOwn (.ref so) (.str name t) (.type "super") (.builtin "super.__getattribute__") true false) _ _ _
  unfold getAttrByItsOwn hookBefore callGetattribute boundAndCalled
  refine wpAny_bind (wpAny_of_eq (show (if onTheHeap (.type "super") then typeLookup (.type "super") "__getattr__" else pure none) = pure none from rfl) ?_)
  refine wpAny_bind (wpAny_attempt (wpAny_holding ?_))
  show wpAny _ _ (bindSpecial (.builtin "super.__getattribute__") (.ref so) >>= _) _ _ _
  refine wpAny_bind (wpAny_of_eq (F.ks_slot_super_ga.bind _) ?_)
  refine wpAny_mono (Q := fun v s' => v = .ref h.objs.size ∧ s' = ⟨h.push (bndO B id x), g, d, t + 1, os⟩) (E := fun _ _ => False)
    (wpAny_call_entry F.ks_slot_super_ga (hTs _) F.ks_entry_super_ga (super_ga hso hno hC hl X hf hT hS hE hA hg hxC hn ⟨_, rfl, rfl, rfl⟩) (F.ks_gaArgs_super _ _)) (fun v s' hv => ?_) fun _ _ z => z.elim
  obtain ⟨rfl, rfl⟩ := hv
  exact wpAny_pure (wpAny_pure hq)
end
end Mine
end

/-! Su3 -/
section
open PySem PySem.W PySem.W.X PyProof.Rows PySem.Calls
open Sem (wp)
set_option Elab.async false
set_option maxRecDepth 100000
set_option maxHeartbeats 1000000
namespace Mine
section
variable {w : World} {A : Around} {s : Shared} {x d b : Addr} {xs : Array Value}
theorem bnd_entry {T id : String} {Bi : Builtin} {Q : Value → Shared → Prop} (hT : (T == "builtin_function_or_method" || T == "method-wrapper") = true) (hb : s.heap.get? b = some (bndO T id x)) (hp : plainId id = true) (he : entryFor table id = some Bi)
    (hc : wpN w A.in1 (checkBoundCall id ⟨[.ref x], []⟩) (fun _ s' => s' = s) s)
    (h : wpN w A.in1 (Bi ⟨[.ref x], []⟩) (fun fin s' => ∃ v, fin = .done (.ret v) ∧ Q v s') s) : wpN w A (call (.ref b) []) Q s := by
  refine wpAny_call (codeAny_of_tree ?_)
  show wpAny _ A.in1 (callAny (.ref b) ⟨[], []⟩) _ _ _
  unfold callAny
  refine wpAny_bind (wpAny_load hb ?_)
  show wpAny _ _ (if ((bndO T id x).cls == .type "method" || (bndO T id x).cls == .type "builtin_function_or_method" || (bndO T id x).cls == .type "method-wrapper") = true then _ else _) _ _ _
  have e1 : ((bndO T id x).cls == .type "method" || (bndO T id x).cls == .type "builtin_function_or_method" || (bndO T id x).cls == .type "method-wrapper") = true := by
    show (Value.type T == .type "method" || Value.type T == .type "builtin_function_or_method" || Value.type T == .type "method-wrapper") = true
    simp only [Bool.or_eq_true, beq_iff_eq] at hT ⊢
    rcases hT with rfl | rfl <;> simp
  have e2 : ((bndO T id x).cls != .type "method") = true := by
    show (Value.type T != .type "method") = true
    simp only [Bool.or_eq_true, beq_iff_eq] at hT
    rcases hT with rfl | rfl <;> rfl
  rw [if_pos e1]
  show wpAny _ _ (if ((bndO T id x).cls != .type "method") = true then _ else _) _ _ _
  rw [if_pos e2]
  refine wpAny_bind (wpAny_mono (wpN.up hc) (fun _ s' e => ?_) fun _ _ z => z)
  subst e
  refine wpAny_bind (wpAny_pure (wpAny_pure ⟨plainId_quiet hp _, codeAny_builtin he ?_⟩))
  rw [Around.under_plainId hp _]
  refine wpAny_mono (wpN.up h) (fun fin s' h' => ?_) fun _ _ z => z
  obtain ⟨v, rfl, hv⟩ := h'
  exact hv

theorem chk_len (v : Value) : checkBoundCall "list.__len__" ⟨[v], []⟩ = pure () := by kernel_rfl
theorem chk_init (v : Value) : checkBoundCall "list.__init__" ⟨[v], []⟩ = pure () := by kernel_rfl
theorem m_mod (P : Params) : mroIn (KF P) 108 (.type "module") = some false := by kernel_rfl
def qualOf (K : Frag) (c : Addr) : Option Str := (clsIn K c).map (·.qualname)
theorem q108 (P : Params) : (clsIn (KF P) 108).map (·.qualname) = some "_Accumulator" := by kernel_rfl
theorem ty108 (P : Params) : typeIn (KF P) (.ref 108) = some (.type "type") := by kernel_rfl
theorem chk_pop {o : Obj} (c : Cx w s.heap) (ho : s.heap.get? x = some o) (hc : o.cls = .ref 108) (hd : ∀ c, o.data ≠ .cls c) : wpN w A (checkBoundCall "list.pop" ⟨[.ref x], []⟩) (fun _ s' => s' = s) s := by
  have X := c.k
  obtain ⟨cd, h1, h2⟩ : ∃ cd, clsIn (KF w.params) 108 = some cd ∧ cd.qualname = "_Accumulator" := by
    have := q108 w.params
    cases h : clsIn (KF w.params) 108 with
    | none => rw [h] at this; cases this
    | some cd => rw [h] at this; exact ⟨cd, rfl, Option.some.inj this⟩
  have hT : Looks (model pr w) s.heap (typeOf (.ref x)) (.ref 108) := by rw [← hc]; exact (Looks.ld ho).andThen .now
  have hm : Looks (model pr w) s.heap (isInstance (.ref x) (.type "module")) false := hT.andThen (looks_mroIn X (m_mod _))
  obtain ⟨hp, g, dd, t, os⟩ := s
  unfold checkBoundCall
  show wpAny _ _ (isInstance (.ref x) (.type "module") >>= _) _ _ _
  refine wpAny_bind (hm.at ?_)
  rw [if_neg (by decide +kernel)]
  refine wpAny_bind (ks_wpAny_isType_inst ho hd ?_)
  rw [if_neg (by decide)]
  refine wpAny_bind (hT.at ?_)
  refine wpAny_bind ((looks_clsIn X h1).at ?_)
  dsimp only
  refine wpAny_bind ((looks_typeIn X (ty108 _)).at ?_)
  rw [if_pos (by decide)]
  rw [h2]
  refine wpAny_of_eq (a := ()) ?_ rfl
  kernel_rfl
theorem body_len {Q : Value → Shared → Prop} (a : Acc s.heap x d xs) (h : ∀ tk, Q (.int xs.size s.toks) { s with toks := tk }) : wpN w A (Builtin.«list.__len__» ⟨[.ref x], []⟩) (fun fin s' => ∃ v, fin = .done (.ret v) ∧ Q v s') s := by
  obtain ⟨n, ho⟩ := a.ob
  show wpAny _ _ (seqSize x >>= fun n => retInt n) _ _ _
  unfold seqSize
  refine wpAny_bind (wpAny_bind (wpAny_loadPart ho (wpAny_pure ?_)))
  unfold retInt
  refine wpAny_bind (wpAny_mkInt ?_)
  exact wpAny_pure ⟨_, rfl, h _⟩
theorem body_init {n : Nat} {di : Option Addr} {Q : Value → Shared → Prop} (ho : s.heap.get? x = some ⟨.ref 108, di, .seq #[] n, #[]⟩) (h : ∀ h' n', h'.get? x = some ⟨.ref 108, di, .seq #[] n', #[]⟩ → Heap.SameBut x s.heap h' → Q .none { s with heap := h' }) :
    wpN w A (Builtin.«list.__init__» ⟨[.ref x], []⟩) (fun fin s' => ∃ v, fin = .done (.ret v) ∧ Q v s') s := by
  unfold Builtin.«list.__init__»
  show wpAny _ _ (Builtin.List.listItems (.ref x) >>= _) _ _ _
  unfold Builtin.List.listItems seqItems?
  refine wpAny_bind (wpAny_bind (wpAny_bind (wpAny_load ho (wpAny_pure (wpAny_pure ?_)))))
  show wpAny _ _ (updateSeq x (fun _ => #[]) >>= _) _ _ _
  refine wpAny_bind (wpAny_updateSeq ho rfl ?_ (by rw [sizeLine]; simp) (by rw [sizeLine]; simp))
  show wpAny _ _ (letGo [] >>= _) _ _ _
  refine wpAny_bind (wpAny_letGo ?_)
  exact wpAny_pure ⟨_, rfl, h _ _ (Heap.get?_update_self _ ho rfl) (Heap.SameBut.update ..)⟩
end
end Mine
end

/-! Su4 -/
section
open PySem PySem.W PySem.W.X PyProof.Rows PySem.Calls
open Sem (wp)
set_option Elab.async false
set_option maxRecDepth 100000
set_option maxHeartbeats 1000000
namespace Mine
abbrev wpC {α : Type} (w : World) (A : Around) (c : Code) (t : Sem α) (Q : α → Shared → Prop) (s : Shared) : Prop := _root_.PySem.wpAt (model pr w) A c t Q No s
def fileOk (K : Frag) (cc : Value) : Bool := match cc with
  | .ref cc => (match K.lookup cc with
    | some ⟨_, _, .fields vs, _⟩ => (match (vs[2]? : Option Value) with | some (.str file _) => (pr.main.file : Str) == file | _ => false)
    | _ => false)
  | _ => false
section
variable {w : World} {A : Around} {s : Shared} {x d b : Addr} {xs : Array Value}
theorem C.enter {f : Addr} {fd : FuncData} {args : List Value} {st : Stmt} {Q : Value → Shared → Prop} (binds l : List (Str × Value)) (c : Cx w s.heap) (hf : (KF w.params).lookup f = some (fnO fd)) (hb : fd.body = .stmts (fnB st))
    (hcd : codeIn (KF w.params) fd.code fd.qualname = true) (hroom : A.depth < recursionLimit) (hbind : BindsTo s fd ⟨args, []⟩ binds)
    (hcell : (fd.scope.names.all fun x => x.2 != .cell) = true) (hloc : (binds.all fun x => decide (fd.scope.names.lookup x.1 = some .local)) = true) (hsc : (fd.scope.isCoroutine, fd.scope.isGenerator, fd.scope.kind) = (false, false, .function))
    (hl : l.map (fun p => binds.reverse.lookup p.1) = l.map (fun p => some p.2))
    (h : ∀ (L : Nat) (s1 : Shared), s.heap.objs.size = L → 135 ≤ L → Nl s1.heap L l → Go [] s s1 → Cx w s1.heap →
      wpC w (A.deeper (callEnv fd L f)) (.func (fnB st) (callEnv fd L f)) (execs (fnB st) (callEnv fd L f)) (fun fl s' => Q (match fl with | .ret v => v | _ => .none) s') s1) :
    wpN w A (PySem.call (.ref f) args) Q s := by
  simp only [Prod.mk.injEq] at hsc
  refine wpAny_call (ks_codeAny_call_defAt (fd := fd) (body := fnB st) (binds := binds) hroom (c.k _ _ hf) rfl c.nolimit (codeRec_of c.k hcd) hb hbind (fun x hx => ?_) (locs hloc) (fun h₀ hns hk => ?_) hsc.1 hsc.2.1 hsc.2.2)
  · have := List.all_eq_true.mp hcell x hx
    simpa using this
  · exact ks_wpAt_mono (h _ { s with heap := h₀, toks := s.toks + binds.length } rfl c.size (Nl.of hns hl) (.of_keeps hk) ((Go.of_keeps (W := []) (tk := s.toks + binds.length) hk).cx (by simp) c)) (fun fl s' h' => h') fun _ _ z => z.elim

def cellIn (K : Frag) (a : Addr) : Option Value := match K.lookup a with
  | some ⟨_, _, .cell v, _⟩ => v
  | _ => none
theorem c32 (P : Params) : cellIn (KF P) 32 = some (.ref 108) := by kernel_rfl
theorem k32 (P : Params) : ∃ a b c, (KF P).lookup 32 = some ⟨a, b, .cell (some (.ref 108)), c⟩ := by
  have := c32 P
  unfold cellIn at this
  split at this
  · rename_i h; rw [this] at h; exact ⟨_, _, _, h⟩
  · cases this
theorem k108 (P : Params) : ∃ a b c cd, (KF P).lookup 108 = some ⟨a, b, .cls cd, c⟩ := by
  have := q108 P
  unfold clsIn at this
  split at this
  · rename_i h; exact ⟨_, _, _, _, h⟩
  · cases this
theorem m_self (P : Params) : mroIn (KF P) 108 (.ref 108) = some true := by kernel_rfl

theorem sup_base {fd : FuncData} {f L : Addr} {body : List Stmt} {p0 p1 : Pos} {attr : Str} {whole : Sem Value} {ar : Arg} {l : List (Str × Value)} {o : Obj} {Q : Value → Shared → Prop} (fm : Fm (callEnv fd L f)) (c : Cx w s.heap)
    (hf : (KF w.params).lookup f = some (fnO fd)) (N : Nl s.heap L l) (hv : l.lookup ar.arg = some (.ref x)) (ho : s.heap.get? x = some o) (hc : o.cls = .ref 108) (hd : ∀ c, o.data ≠ .cls c)
    (hks : (callEnv fd L f).kindOf "super" = some .globalImplicit) (hkc : (callEnv fd L f).kindOf "__class__" = some .free) (hka : (callEnv fd L f).kindOf ar.arg = some .local) (hat : (attr == ("__class__" : Str)) = false)
    (hp : (fd.params.posonlyargs ++ fd.params.args).head? = some ar) (hfile : fileOk (KF w.params) fd.code = true) (hcl : fd.closure = [(("__class__" : Str), 32)])
    (h : ∀ h', h'.get? s.heap.objs.size = some (supO x) → (∀ y o, s.heap.get? y = some o → h'.get? y = some o) → Q (.ref s.heap.objs.size) { s with heap := h' }) :
    wpC w A (.func body (callEnv fd L f)) (attributeBase (.Call (.Name "super" p0) [] [] p1) attr (callEnv fd L f) whole) Q s := by
  obtain ⟨ca, cb, cc, h32⟩ := k32 w.params
  obtain ⟨da, db, dc, cd, h108⟩ := k108 w.params
  obtain ⟨code, oc, vs, file, tf, e1, e2, e3, e4, e5⟩ : ∃ code oc vs file tf, fd.code = .ref code ∧ (KF w.params).lookup code = some oc ∧ oc.data = .fields vs ∧ vs[2]? = some (.str file tf) ∧ ((pr.main.file : Str) == file) = true := by
    unfold fileOk at hfile
    generalize fd.code = cv at hfile ⊢
    split at hfile
    · split at hfile
      · rename_i cc _ _ _ vs _ h1
        split at hfile
        · rename_i file tf h2
          exact ⟨_, _, _, _, _, rfl, h1, rfl, h2, hfile⟩
        · cases hfile
      · cases hfile
    · cases hfile
  refine ks_wpAt_super_base (env := callEnv fd L f) hks hkc hat rfl (c.k _ _ hf) rfl hp e1 (c.k _ _ e2) e3 e4 e5 (by kernel_rfl) ?_
  refine ks_loadName_global fm.kind hks ?_
  have e := b_super w.params
  unfold loadGlobal
  rw [fm.glob, fm.bi]
  obtain ⟨mb, nb, eb⟩ := c.b
  refine wpAny_bind ((looks_nsIn c.k e.1).here (wpAny_bind (wpAny_nsGet nb ?_)))
  rw [eb _ e.2.2, e.2.1]
  refine wpAny_pure ⟨rfl, ?_⟩
  refine wpAny_loadName_free fm.kind hkc (c := 32) ?_ ⟨_, c.k _ _ h32, rfl⟩ ?_
  · show fd.closure.lookup _ = _
    rw [hcl]; rfl
  refine ldn fm N hv hka ?_
  obtain ⟨hh, g, dd, t, os⟩ := s
  refine ks_wpAny_isType_cls (c.k _ _ h108) rfl ⟨rfl, ?_⟩
  exact ks_wpAny_call_super (c.k _ _ h108) rfl ho hc hd (looks_mroIn c.k (m_self _)) h
end
end Mine
end

/-! Su5 -/
section
open PySem PySem.W PySem.W.X PyProof.Rows PySem.Calls
open Sem (wp)
set_option Elab.async false
set_option maxRecDepth 100000
set_option maxHeartbeats 1000000
namespace Mine
section
variable {w : World} {A : Around} {s : Shared} {x d b : Addr} {xs : Array Value} {env : Env}
theorem callWith_bnd {T id : String} {pos : Pos} {Q : Value → Shared → Prop} (hT : (T == "builtin_function_or_method" || T == "method-wrapper") = true) (hb : s.heap.get? b = some (bndO T id x)) (h : wpN w A (call (.ref b) []) Q s) :
    wpN w A (callWith pos (.ref b) [] (backTo pos (starEach [] env)) []) Q s := by
  have hne : ((bndO T id x).cls != .type "method") = true := by
    show (Value.type T != .type "method") = true
    simp only [Bool.or_eq_true, beq_iff_eq] at hT
    rcases hT with rfl | rfl <;> rfl
  have hm : ((bndO T id x).cls == .type "builtin_function_or_method" || (bndO T id x).cls == .type "method-wrapper") = true := by
    show (Value.type T == .type "builtin_function_or_method" || Value.type T == .type "method-wrapper") = true
    simp only [Bool.or_eq_true, beq_iff_eq] at hT ⊢
    rcases hT with rfl | rfl <;> simp
  show wpN w A (callWith pos (.ref b) [] [] []) Q s
  unfold callWith
  refine wpAny_bind (wpAny_holding (evalArgs_nil3 ?_))
  refine wpAny_bind (wpAny_standAt ?_)
  refine wpAny_bind (m := keeperOf (.ref b)) ?_
  unfold keeperOf
  refine wpAny_bind (wpAny_load hb ?_)
  show wpAny _ _ (if ((bndO T id x).cls != .type "method") = true then _ else _) _ _ _
  rw [if_pos hne]
  refine wpAny_pure ?_
  rw [if_pos hm]
  exact wpAny_bind (wpAny_mono h (fun r s₂ hr => wpAny_bind (wpAny_holding (wpAny_point (wpAny_pure hr)))) fun _ _ z => z)

theorem opq (P : Params) : nsIn (KF P) cStatics "thirdparty.any" = some none := by kernel_rfl

/-- super().name() under a method whose receiver is x -/
theorem sup_call {id T gid B : String} {Bg Bi : Builtin} {name : Str} {fd : FuncData} {f L : Addr} {body : List Stmt} {p0 p1 apos pos : Pos} {ar : Arg} {l : List (Str × Value)} {o : Obj} {Q : Value → Shared → Prop} (fm : Fm (callEnv fd L f)) (c : Cx w s.heap)
    (hf : (KF w.params).lookup f = some (fnO fd)) (N : Nl s.heap L l) (hv : l.lookup ar.arg = some (.ref x)) (ho : s.heap.get? x = some o) (hc : o.cls = .ref 108) (hd : ∀ c, o.data ≠ .cls c) (hx : x ≠ 108)
    {pl : Sem Bool} (hev : eval (.Call (.Attribute (.Call (.Name "super" p0) [] [] p1) name apos) [] [] pos) (callEnv fd L f) = (do
      let ov ← attributeBase (.Call (.Name "super" p0) [] [] p1) name (callEnv fd L f) (eval (.Call (.Name "super" p0) [] [] p1) (callEnv fd L f))
      standAt apos.atName
      let (fv, first) ← holding [ov] (getMethod ov name pl)
      callWith pos fv first (backTo pos (starEach [] (callEnv fd L f))) []))
    (hks : (callEnv fd L f).kindOf "super" = some .globalImplicit) (hkc : (callEnv fd L f).kindOf "__class__" = some .free) (hka : (callEnv fd L f).kindOf ar.arg = some .local) (hat : (name == ("__class__" : Str)) = false)
    (hp : (fd.params.posonlyargs ++ fd.params.args).head? = some ar) (hfile : fileOk (KF w.params) fd.code = true) (hcl : fd.closure = [(("__class__" : Str), 32)])
    (hm : ks_superIn (KF w.params) 108 108 name = some (some (.builtin id))) (hT : typeOf (.builtin id) = pure (.type T)) (hS : Slot T "__get__" gid) (hE : entryFor table gid = some Bg) (hA : ∀ a b c, argsOk gid ⟨[a, b, c], []⟩)
    (hB : (B == "builtin_function_or_method" || B == "method-wrapper") = true)
    (hg : ∀ (s' : Shared), s'.heap.get? x = some o → Cx w s'.heap → ∀ (A' : Around) (Q' : Fin → Shared → Prop) (E' : Value → Shared → Prop), Q' (.done (.ret (.ref s'.heap.objs.size))) { s' with heap := s'.heap.push (bndO B id x) } → wpAny (model pr w) A' (Bg ⟨[.builtin id, .ref x, .ref 108], []⟩) Q' E' s')
    (hpl : plainId id = true) (he : entryFor table id = some Bi) (hck : ∀ (s' : Shared), s'.heap.get? x = some o → Cx w s'.heap → wpN w A.in1 (checkBoundCall id ⟨[.ref x], []⟩) (fun _ s'' => s'' = s') s')
    (h : ∀ (s' : Shared), (∀ y o, s.heap.get? y = some o → s'.heap.get? y = some o) → Go [] s s' → wpN w A.in1 (Bi ⟨[.ref x], []⟩) (fun fin s'' => ∃ v, fin = .done (.ret v) ∧ Q v s'') s') :
    wpC w A (.func body (callEnv fd L f)) (eval (.Call (.Attribute (.Call (.Name "super" p0) [] [] p1) name apos) [] [] pos) (callEnv fd L f)) Q s := by
  refine ks_wpAt_MethodCall (sup_base fm c hf N hv ho hc hd hks hkc hka hat hp hfile hcl fun h1 hs1 hk1 => ?_) hev
  obtain ⟨hh, g, dd, t, os⟩ := s
  have c1 : Cx w h1 := c.keeps' hk1
  cases hcd : clsIn (KF w.params) 108 with
  | none => unfold ks_superIn at hm; rw [hcd] at hm; cases hm
  | some cd =>
    unfold ks_superIn at hm
    rw [hcd] at hm
    refine super_gm hs1 (looks_opaque c1.k (opq _)) (l₀ := cd.mro) ?_ rfl c1.k hm hT hS hE hA (hg ⟨h1, g, dd, t + 1, os⟩ (hk1 _ _ ho) c1) hx hat ?_
    · exact fun A Q E s k q => wpAny_bind ((looks_clsIn c1.k hcd) A _ E s k (wpAny_pure q))
    · have k2 : ∀ y o, hh.get? y = some o → (h1.push (bndO B id x)).get? y = some o := fun y o e => Heap.get?_push_of_some _ (hk1 y o e)
      have hb : (h1.push (bndO B id x)).get? h1.objs.size = some (bndO B id x) := Heap.get?_push_size _ rfl
      have c2 : Cx w (h1.push (bndO B id x)) := c.keeps' k2
      refine callWith_bnd (T := B) (id := id) (x := x) hB hb (bnd_entry hB hb hpl he (hck _ (k2 _ _ ho) c2) (h _ k2 (.of_keeps (s := ⟨hh, g, dd, t, os⟩) k2)))
end
end Mine
end

/-! Me -/
section
open PySem PySem.W PySem.W.X PyProof.Rows PySem.Calls
open Sem (wp)
set_option Elab.async false
set_option maxRecDepth 100000
set_option maxHeartbeats 1000000
namespace Mine
theorem su_len (P : Params) : ks_superIn (KF P) 108 108 "__len__" = some (some (.builtin "list.__len__")) := by kernel_rfl
theorem su_pop (P : Params) : ks_superIn (KF P) 108 108 "pop" = some (some (.builtin "list.pop")) := by kernel_rfl
theorem su_init (P : Params) : ks_superIn (KF P) 108 108 "__init__" = some (some (.builtin "list.__init__")) := by kernel_rfl
theorem ne108 {x : Addr} (h : 135 ≤ x) : x ≠ 108 := by rintro rfl; exact absurd h (by decide)
abbrev ePC (L : Addr) : Env := callEnv fdPC L 105
theorem fmPC (L : Addr) : Fm (ePC L) := ⟨rfl, rfl, rfl⟩
theorem Acc.keeps {h h' : Heap} {x d : Addr} {xs : Array Value} (a : Acc h x d xs) (hk : ∀ b o, h.get? b = some o → h'.get? b = some o) : Acc h' x d xs := by
  obtain ⟨n, ho⟩ := a.ob
  obtain ⟨od, hd, D⟩ := a.di
  exact ⟨⟨n, hk _ _ ho⟩, ⟨od, hk _ _ hd, D⟩, a.lo⟩
theorem Acc.go {s s' : Shared} {x d : Addr} {xs : Array Value} (a : Acc s.heap x d xs) (G : Go [] s s') : Acc s'.heap x d xs := by
  obtain ⟨n, ho⟩ := a.ob
  obtain ⟨od, hd, D⟩ := a.di
  exact ⟨⟨n, G.get ho a.lo.1⟩, ⟨od, G.get hd a.lo.2, D⟩, a.lo⟩
section
variable {w : World} {A : Around} {s : Shared} {x d b : Addr} {xs : Array Value} {env : Env}
theorem part_count {Q : Value → Shared → Prop} (c : Cx w s.heap) (r : Rm 2 A) (a : Acc s.heap x d xs) (hQ : ∀ tk s', Go [] s s' → Q (.int xs.size tk) s') : wpN w A (call (.ref 105) [.ref x]) Q s := by
  refine C.enter [("self", .ref x)] [("self", .ref x)] c (kPC _) (st := metS 8) rfl (by kernel_rfl) r.room (BindsTo.of_eq (by kernel_rfl)) (by kernel_rfl) (by kernel_rfl) (by kernel_rfl) (by kernel_rfl) fun L s0 hLd hL N0 G0 c0 => ?_
  have a0 := a.go G0
  obtain ⟨n, ho⟩ := a0.ob
  refine ks_wpAt_execs_cons (ks_wpAt_Return_some ?_)
  refine sup_call (fmPC L) c0 (kPC _) N0 (ar := fdPC.params.args.head?.getD ⟨"self", none, ⟨0, 0, 0, 0⟩⟩) rfl ho rfl (fun _ e => nomatch e) (ne108 a.lo.1) rfl rfl rfl rfl rfl rfl (by kernel_rfl) rfl (su_len _) t_len s_wget e_wget a_wget rfl
    (fun s' ho' c' A' Q' E' hq' => wget_len ho' rfl (looks_mroIn c'.k (m_list _)) hq') (by decide +kernel) entry_list_len (fun s' ho' c' => wpAny_of_eq (chk_len _) rfl) fun s' hk' G' => body_len (a0.keeps hk') fun tk => hQ _ _ ((G0.trans G').tok tk)
end
end Mine
end

/-! Me2 -/
section
open PySem PySem.W PySem.W.X PyProof.Rows PySem.Calls
open Sem (wp)
set_option Elab.async false
set_option maxRecDepth 100000
set_option maxHeartbeats 1000000
namespace Mine
theorem Go.getW {W : List Addr} {s s' : Shared} {a : Addr} {o : Obj} (G : Go W s s') (h : s.heap.get? a = some o) (ha : 135 ≤ a) (hw : a ∉ W) : s'.heap.get? a = some o :=
  G.keep a o hw (by rintro rfl; exact absurd ha (by decide)) (by rintro rfl; exact absurd ha (by decide)) h
theorem Go.upd {W : List Addr} {s₀ s : Shared} {h' : Heap} {tk : Nat} {a : Addr} (G : Go W s₀ s) (hs : Heap.SameBut a s.heap h') (ha : a ∈ W) (la : 135 ≤ a) : Go W s₀ { s with heap := h', toks := tk } :=
  ⟨fun b o hn h7 h8 e => hs.extBut b o (fun q => hn (q ▸ ha)) (G.keep b o hn h7 h8 e), G.gens, G.dr, G.os, fun t => (G.tab t).keeps (fun o e => hs.extBut _ o (by rintro rfl; exact absurd la (by decide)) e) fun o e => hs.extBut _ o (by rintro rfl; exact absurd la (by decide)) e⟩
theorem Go.up {W : List Addr} {s s' : Shared} (G : Go [] s s') : Go W s s' := G.mono (by simp)
def tpO (a b : Str) (ta tb : Tok) : Obj := { cls := .type "tuple", data := .seq #[.str a ta, .str b tb] }
def Tp (h : Heap) (v : Value) (a b : Str) : Prop := ∃ t ta tb, v = .ref t ∧ 135 ≤ t ∧ h.get? t = some (tpO a b ta tb)
abbrev ePO (L : Addr) : Env := callEnv fdPO L 68
theorem fmPO (L : Addr) : Fm (ePO L) := ⟨rfl, rfl, rfl⟩
theorem f_pc (P : Params) : findIn (KF P) (.ref 108) "part_count" = some (some (.ref 105)) := by kernel_rfl
theorem t_pc (P : Params) : typeIn (KF P) (.ref 105) = some (.type "function") := by kernel_rfl
section
variable {w : World} {A : Around} {s : Shared} {x d b : Addr} {xs : Array Value} {env : Env}
theorem metN {o : Expr} {name : Str} {apos pos : Pos} {args : List Expr} {pl : Sem Bool} {Q : Value → Shared → Prop}
    (he : eval (.Call (.Attribute o name apos) args [] pos) env = (do
      let ov ← attributeBase o name env (eval o env)
      standAt apos.atName
      let (f, first) ← holding [ov] (getMethod ov name pl)
      callWith pos f first (backTo pos (starEach args env)) []))
    (hb : attributeBase o name env (eval o env) = eval o env)
    (h : wpN w A (eval o env) (fun ov s₁ => wpN w A (getMethod ov name pl) (fun fx s₂ => wpN w A (callWith pos fx.1 fx.2 (backTo pos (starEach args env)) []) Q s₂) s₁) s) :
    wpN w A (eval (.Call (.Attribute o name apos) args [] pos) env) Q s := by
  rw [he, hb]
  refine wpAny_bind (wpAny_mono h (fun ov s₁ h₁ => wpAny_bind (wpAny_standAt (wpAny_bind (wpAny_holding (wpAny_mono h₁ (fun fx s₂ h₂ => ?_) fun _ _ x => x))))) fun _ _ x => x)
  exact h₂
/-- x.name(...): a function of the class -/
theorem accM {f : Addr} {fd : FuncData} {o : Expr} {name : Str} {apos pos : Pos} {args : List Expr} {pl : Sem Bool} {Q : Value → Shared → Prop} (hf : (KF w.params).lookup f = some (fnO fd)) (hm : findIn (KF w.params) (.ref 108) name = some (some (.ref f)))
    (ht : typeIn (KF w.params) (.ref f) = some (.type "function")) (hn : (Str.ofString "_initial_size" == name) = false)
    (he : eval (.Call (.Attribute o name apos) args [] pos) env = (do
      let ov ← attributeBase o name env (eval o env)
      standAt apos.atName
      let (f, first) ← holding [ov] (getMethod ov name pl)
      callWith pos f first (backTo pos (starEach args env)) []))
    (hb : attributeBase o name env (eval o env) = eval o env)
    (h : wpN w A (eval o env) (fun ov s₁ => ∃ x d xs, ov = .ref x ∧ Cx w s₁.heap ∧ Acc s₁.heap x d xs ∧
      wpN w A (evalArgs (.ref f) true (backTo pos (starEach args env)) []) (fun a s₂ => a.kw = [] ∧ Cx w s₂.heap ∧ wpN w A (call (.ref f) (.ref x :: a.pos)) Q s₂) s₁) s) :
    wpN w A (eval (.Call (.Attribute o name apos) args [] pos) env) Q s := by
  refine metN he hb (wpAny_mono h (fun ov s₁ h₁ => ?_) fun _ _ z => z)
  obtain ⟨x, d, xs, rfl, c, a, h₁⟩ := h₁
  refine acc_method c a hm (.inl ht) hn ?_
  refine callWith_function_kw (o := fnO fd) (fd := fd) (first := [.ref x]) (wpAny_mono h₁ (fun v s₂ h₂ => ?_) fun _ _ z => z)
  obtain ⟨e, c₂, h₂⟩ := h₂
  refine ⟨⟨c₂.k _ _ hf, rfl⟩, ?_⟩
  rw [e]; exact h₂
theorem truthy_bool {b : Bool} {Q : Bool → Shared → Prop} (h : Q b s) : wpN w A (truthy (.bool b)) Q s := by cases b <;> exact wpAny_pure h

theorem body_pop {v : Value} {Q : Value → Shared → Prop} (a : Acc s.heap x d (xs.push v)) (hz : xs.size ≤ 1000) (hQ : ∀ h', Acc h' x d xs → Heap.SameBut x s.heap h' → Q v { s with heap := h' }) :
    wpN w A (Builtin.«list.pop» ⟨[.ref x], []⟩) (fun fin s' => ∃ v, fin = .done (.ret v) ∧ Q v s') s := by
  obtain ⟨n, ho⟩ := id a.ob
  obtain ⟨h', e, a', sb⟩ := acc_update (f := (·.eraseIdxIfInBounds xs.size)) a
  have er : (xs.push v).eraseIdxIfInBounds xs.size = xs := by
    unfold Array.eraseIdxIfInBounds
    rw [dif_pos (by simp)]
    apply Array.ext'
    simp only [Array.toList_eraseIdx, Array.toList_push]
    rw [List.eraseIdx_append_of_length_le (by simp)]
    simp
  rw [er] at a'
  show wpAny _ _ (do
    let xs ← Builtin.List.listItems (.ref x)
    if xs.isEmpty then rule "list.pop.empty"; raiseError "IndexError" "pop from empty list"
    match (seqIndex? (-1) xs.size).bind fun k => xs[k]?.map (k, ·) with
    | some (k, y) => Builtin.List.listUpdate (.ref x) (·.eraseIdxIfInBounds k); ret y
    | none => rule "list.pop.out-of-range"; raiseError "IndexError" "pop index out of range") _ _ s
  unfold Builtin.List.listItems seqItems?
  refine wpAny_bind (wpAny_bind (wpAny_bind (wpAny_load ho (wpAny_pure (wpAny_pure ?_)))))
  rw [if_neg (by simp)]
  rw [Array.size_push, seqIndex_last, Option.bind_some]
  have g : (xs.push v)[xs.size]? = some v := by simp
  rw [g]
  show wpAny _ _ (updateSeq x (·.eraseIdxIfInBounds xs.size) >>= fun _ => ret v) _ _ s
  refine wpAny_bind (wpAny_updateSeq ho rfl (wpAny_pure ⟨v, rfl, ?_⟩) (by rw [sizeLine]; simp; (first | lia | omega)) (by rw [er, sizeLine]; (first | lia | omega)))
  subst e
  exact hQ _ a' sb

local macro_rules | `(tactic| x_close) => `(tactic| (repeat (first | with_reducible refine wpAny_BinOp ?_ | ((with_reducible apply ld (fmPO _)); assumption; rfl; rfl; rfl) | with_reducible refine wpAny_Constant_int ?_ | with_reducible refine wpAny_Constant_str ?_ | with_reducible refine add_int ?_ | with_reducible refine sub_int ?_)))

theorem split_last (xs : Array Value) : xs = #[] ∨ ∃ (ys : Array Value) (v : Value), xs = ys.push v := by
  obtain ⟨l⟩ := xs
  rcases List.eq_nil_or_concat l with rfl | ⟨l', v, rfl⟩
  · exact .inl rfl
  · exact .inr ⟨l'.toArray, v, by simp⟩

theorem pop_call {Q : Value → Shared → Prop} (c : Cx w s.heap) (r : Rm 3 A) (a : Acc s.heap x d xs) (hz : xs.size ≤ 1000)
    (h0 : xs = #[] → ∀ v s', Tp s'.heap v "" "" → Go [] s s' → Q v s') (h1 : ∀ (ys : Array Value) (v : Value), xs = ys.push v → ∀ s', Acc s'.heap x d ys → Go [x] s s' → Q v s') : wpN w A (call (.ref 68) [.ref x]) Q s := by
  refine C.enter [("self", .ref x)] [("self", .ref x)] c (kPO _) (st := metS 3) rfl (by kernel_rfl) r.room (BindsTo.of_eq (by kernel_rfl)) (by kernel_rfl) (by kernel_rfl) (by kernel_rfl) (by kernel_rfl) fun L s0 hLd hL N0 G0 c0 => ?_
  have a0 := a.go G0
  refine ks_wpAt_execs_cons (ks_wpAt_If (wpAt_of_wpAny (wpAny_isTrue_Compare1 (accM (kPC _) (f_pc _) (t_pc _) rfl (by rfl) (by rfl) ?_))))
  x_close
  refine ⟨x, d, xs, rfl, c0, a0, evalArgs_nil3 ⟨rfl, c0, part_count c0 r.deeper a0 fun tk s1 G1 => ?_⟩⟩
  x_close
  refine eq_int (truthy_bool ?_)
  have G1 := G1.tok (s1.toks + 1)
  have c1 := G1.cx (by simp) c0
  have N1 := N0.go G1 hL
  have a1 := a0.go G1
  have G1 := G0.trans G1
  generalize ({ s1 with toks := s1.toks + 1 } : Shared) = s2 at G1 c1 N1 a1 ⊢
  rcases split_last xs with rfl | ⟨ys, v, rfl⟩
  · rw [if_pos (by decide)]
    refine ks_wpAt_execs_cons (ks_wpAt_Return_some (wpAt_of_wpAny (wpAny_Tuple (sp2 rfl ?_))))
    x_close
    refine ⟨by show 2 ≤ sizeLine; rw [sizeLine]; decide, ?_⟩
    refine h0 rfl _ _ ⟨_, _, _, rfl, ?_, Heap.get?_push_size _ rfl⟩ (G1.new fun b o e => Heap.get?_push_of_some _ e)
    exact c1.size
  · rw [if_neg (by simp; (first | lia | omega))]
    obtain ⟨n, ho⟩ := a1.ob
    refine wpAt_of_wpAny (wpAny_execs_nil ?_)
    refine ks_wpAt_execs_cons (ks_wpAt_Return_some ?_)
    refine sup_call (fmPO L) c1 (kPO _) N1 (ar := fdPO.params.args.head?.getD ⟨"self", none, ⟨0, 0, 0, 0⟩⟩) rfl ho rfl (fun _ e => nomatch e) (ne108 a.lo.1) rfl rfl rfl rfl rfl rfl (by kernel_rfl) rfl (su_pop _) t_pop s_mget e_mget a_mget rfl
      (fun s' ho' c' A' Q' E' hq' => mget_pop ho' rfl (looks_mroIn c'.k (m_list _)) hq') (by decide +kernel) PySem.F.entry_list_pop (fun s' ho' c' => chk_pop c' ho' rfl (fun _ e => nomatch e)) fun s' hk' G' => ?_
    refine body_pop (a1.keeps hk') (by simp at hz; (first | lia | omega)) fun h' a' sb => h1 _ _ rfl _ a' ?_
    exact ((G1.trans G').up).upd sb (by simp) a.lo.1
end
end Mine
end

/-! Me3 -/
section
open PySem PySem.W PySem.W.X PyProof.Rows PySem.Calls
open Sem (wp)
set_option Elab.async false
set_option maxRecDepth 100000
set_option maxHeartbeats 1000000
namespace Mine
theorem sq_none (P : Params) : (seqItemTypes.all fun n => mroIn (KF P) 108 (.type n) == some false) = true := by kernel_rfl
section
variable {w : World} {A : Around} {s : Shared} {x d b : Addr} {xs : Array Value} {env : Env}
theorem any_no {l : List String} {Q : Bool → Shared → Prop} (c : Cx w s.heap) (hl : (l.all fun n => mroIn (KF w.params) 108 (.type n) == some false) = true) (h : Q false s) : wpN w A (l.anyM fun n => isSubtype (.ref 108) (.type n)) Q s := by
  induction l with
  | nil => exact wpAny_pure h
  | cons n l ih =>
    simp only [List.all_cons, Bool.and_eq_true, beq_iff_eq] at hl
    unfold List.anyM
    refine wpAny_bind ((looks_mroIn c.k hl.1).here ?_)
    exact ih (by simpa using hl.2)
theorem acc_key {k : Value} {name : Str} {Q : Value → Shared → Prop} (c : Cx w s.heap) (a : Acc s.heap x d xs) (h : Q k s) : wpN w A (sequenceKey (.ref x) k name) Q s := by
  unfold sequenceKey
  refine wpAny_bind ((acc_type a).here ?_)
  dsimp only
  refine wpAny_bind (any_no c (sq_none _) ?_)
  rw [if_pos (by decide)]
  exact wpAny_pure h
theorem acc_callSpecial {name : Str} {id T : String} {args : List Value} {Q : Option Value → Shared → Prop} (c : Cx w s.heap) (a : Acc s.heap x d xs) (hf : findIn (KF w.params) (.ref 108) name = some (some (.builtin id)))
    (ht : typeOf (.builtin id) = pure (.type T)) (hT : (T == "function" || T == "method_descriptor" || T == "wrapper_descriptor") = true) (h : wpN w A (call (.builtin id) (.ref x :: args)) (fun v s' => Q (some v) s') s) :
    wpN w A (callSpecial? (.ref x) name args) Q s := by
  unfold callSpecial? specialOf
  refine wpAny_bind (wpAny_bind ((acc_type a).here ((looks_findIn c.k hf).here ?_)))
  refine wpAny_holding ?_
  unfold bindSpecial
  refine wpAny_bind (wpAny_bind (wpAny_of_eq ht ?_))
  have e : (Value.type T == .type "function" || Value.type T == .type "method_descriptor" || Value.type T == .type "wrapper_descriptor") = true := by
    simp only [Bool.or_eq_true, beq_iff_eq] at hT ⊢
    rcases hT with (rfl | rfl) | rfl <;> simp
  rw [if_pos e]
  refine wpAny_pure ?_
  exact wpAny_bind (wpAny_mono h (fun v s' h' => wpAny_pure h') fun _ _ z => z)
theorem f_getitem (P : Params) : findIn (KF P) (.ref 108) "__getitem__" = some (some (.builtin "list.__getitem__")) := by kernel_rfl
theorem f_setitem (P : Params) : findIn (KF P) (.ref 108) "__setitem__" = some (some (.builtin "list.__setitem__")) := by kernel_rfl
theorem t_getitem : typeOf (.builtin "list.__getitem__") = pure (.type "method_descriptor") := by kernel_rfl
theorem t_setitem : typeOf (.builtin "list.__setitem__") = pure (.type "wrapper_descriptor") := by kernel_rfl
/-- the parts of a slice k: -/
theorem sl_from {sl : Addr} {k : Nat} {t : Tok} {Q : Option Int → Shared → Prop} (hs : s.heap.IsSliceOf sl (.int k t) .none .none) (h : Q none s) : wpN w A (Builtin.List.listSubscript? (.ref sl)) Q s := by
  obtain ⟨os, hos, hcs, hds⟩ := id hs
  have hTs : s.TypeIs (.ref sl) "slice" := ⟨os, hos, hcs⟩
  unfold Builtin.List.listSubscript?
  refine wpAny_bind (wpAny_specialOf hTs slice_no_index ?_)
  simp only [Option.isNone_none, if_true]
  exact wpAny_pure h
theorem sl_parts {sl : Addr} {k : Nat} {t : Tok} {Q : Value × Value × Value → Shared → Prop} (hs : s.heap.IsSliceOf sl (.int k t) .none .none) (h : Q (rawPart (some k), rawPart none, rawPart none) s) : wpN w A (Builtin.List.listSliceParts (.ref sl)) Q s := by
  obtain ⟨os, hos, hcs, hds⟩ := id hs
  rw [listSliceParts_eq]
  refine wpAny_bind (wpAny_field hos hds (x := .none) rfl (wpAny_bind (wpAny_listPart .none ?_)))
  rw [if_neg (show ¬ ((rawPart none == rawInt 0) = true) from Bool.false_ne_true)]
  refine wpAny_bind (wpAny_field hos hds (x := .int k t) rfl (wpAny_bind (wpAny_listPart (.int k t) ?_)))
  exact wpAny_bind (wpAny_field hos hds (x := .none) rfl (wpAny_bind (wpAny_listPart .none (wpAny_pure h))))
theorem sl_bounds {k n : Nat} (hk : k ≤ n) : sliceBounds (some (k : Int)) none none n = ((k : Int), (n : Int), 1) := by
  unfold sliceBounds
  have h1 : ¬ ((k : Int) < 0) := by (first | lia | omega)
  simp only [Option.getD_none, show (1 : Int) > 0 by decide, if_true, h1, if_false]
  congr 1
  (first | lia | omega)
theorem sl_ind {k n : Nat} (hk : k ≤ n) : sliceIndices (rawPart (some (k : Int))) (rawPart none) (rawPart none) n = pure ((k : Int), (n : Int), 1) := by
  rw [sliceIndices_raw (some (k : Int)) none none n (by simp), sl_bounds hk]
theorem pick_all {k : Nat} : ((sliceRange (k : Int) (xs.size : Int) 1).filterMap (xs[·]?)).toArray = (xs.toList.drop k).toArray := by
  rw [sliceRange_one, pick_run]
  congr 1
  apply List.take_of_length_le
  simp
theorem acc_slice {sl : Addr} {k : Nat} {t : Tok} {Q : Value → Shared → Prop} (c : Cx w s.heap) (a : Acc s.heap x d xs) (hs : s.heap.IsSliceOf sl (.int k t) .none .none) (hk : k ≤ xs.size) (hz : xs.size ≤ 1000)
    (h : Q (.ref s.heap.objs.size) { s with heap := s.heap.push { cls := .type "list", data := .seq (xs.toList.drop k).toArray } }) : wpN w A (getItem (.ref x) (.ref sl)) Q s := by
  obtain ⟨n, ho⟩ := id a.ob
  unfold getItem
  refine wpAny_holding (wpAny_bind (acc_key c a (wpAny_bind (acc_callSpecial c a (f_getitem _) t_getitem rfl (acc_entry (n := "__getitem__") c a (by decide +kernel) (.inr (by decide +kernel)) (by decide +kernel) entry_list_getitem (args_list_getitem _ _) ?_)))))
  show wpAny _ _ (Builtin.List.listSubscript? (.ref sl) >>= _) _ _ s
  refine wpAny_bind (sl_from hs ?_)
  obtain ⟨os, hos, hcs, hds⟩ := id hs
  have hTs : s.TypeIs (.ref sl) "slice" := ⟨os, hos, hcs⟩
  show wpAny _ _ (typeOf (.ref sl) >>= _) _ _ s
  refine wpAny_bind (wpAny_typeOf hTs ?_)
  rw [if_neg (by decide)]
  refine wpAny_bind (sl_parts hs ?_)
  refine wpAny_bind (m := Builtin.List.listItems (.ref x)) ?_
  unfold Builtin.List.listItems
  refine wpAny_bind (wpAny_seqItems ho rfl (wpAny_pure ?_))
  refine wpAny_bind (wpAny_of_eq (sl_ind hk) ?_)
  show wpAny _ _ (newObj (.type "list") (.seq ((sliceRange (k : Int) (xs.size : Int) 1).filterMap (xs[·]?)).toArray) >>= _) _ _ _
  rw [pick_all]
  refine wpAny_bind (wpAny_newObj_type (wpAny_pure ⟨_, rfl, wpAny_pure ?_⟩) (by show ((xs.toList.drop k).toArray).size ≤ sizeLine; rw [sizeLine]; simp; (first | lia | omega)))
  exact h
theorem acc_cut {sl l : Addr} {k : Nat} {t : Tok} {Q : Unit → Shared → Prop} (c : Cx w s.heap) (a : Acc s.heap x d xs) (hs : s.heap.IsSliceOf sl (.int k t) .none .none) (hl : s.heap.IsList l #[]) (hk : k ≤ xs.size) (hz : xs.size ≤ 1000)
    (h : ∀ h', Acc h' x d (xs.toList.take k).toArray → Heap.SameBut x s.heap h' → Q () { s with heap := h' }) : wpN w A (setItem (.ref x) (.ref sl) (.ref l)) Q s := by
  obtain ⟨n, ho⟩ := id a.ob
  obtain ⟨ol, hol, hcl, nl, hdl⟩ := id hl
  unfold setItem
  refine wpAny_holding (wpAny_bind (acc_key c a (wpAny_bind (acc_callSpecial c a (f_setitem _) t_setitem rfl (acc_entry (n := "__setitem__") c a (by decide +kernel) (.inl (by decide +kernel)) (by decide +kernel) entry_list_setitem (args_list_setitem _ _ _) ?_)))))
  show wpAny _ _ (Builtin.List.listSubscript? (.ref sl) >>= _) _ _ s
  refine wpAny_bind (sl_from hs ?_)
  obtain ⟨os, hos, hcs, hds⟩ := id hs
  have hTs : s.TypeIs (.ref sl) "slice" := ⟨os, hos, hcs⟩
  show wpAny _ _ (typeOf (.ref sl) >>= _) _ _ s
  refine wpAny_bind (wpAny_typeOf hTs ?_)
  rw [if_neg (by decide)]
  refine wpAny_bind (sl_parts hs ?_)
  have hne : Builtin.List.listSameRef (.ref x) (.ref l) = false := by
    have : x ≠ l := by
      rintro rfl
      rw [ho] at hol
      cases hol
      cases hcl
    simp [Builtin.List.listSameRef, this]
  dsimp only
  rw [hne, if_neg (by decide)]
  unfold Builtin.List.listAllItems
  refine wpAny_bind (wpAny_bind (wpAny_typeOf (T := "list") ⟨ol, hol, hcl⟩ ?_))
  rw [if_pos (by decide)]
  unfold Builtin.List.listItems
  refine wpAny_bind (wpAny_seqItems hol hdl (wpAny_pure ?_))
  refine wpAny_bind (wpAny_bind (wpAny_seqItems ho rfl (wpAny_pure ?_)))
  refine wpAny_bind (wpAny_of_eq (sl_ind hk) ?_)
  dsimp only
  rw [if_pos (by decide)]
  refine wpAny_bind (wpAny_rule ?_)
  rw [if_neg (by unfold Builtin.List.listTooLong; simp [sizeLine]; (first | lia | omega))]
  have e1 : (max (k : Int) (xs.size : Int)).toNat = xs.size := by (first | lia | omega)
  rw [e1]
  have e2 : ∀ ys : Array Value, ys.size = xs.size → ys.extract 0 (k : Int).toNat ++ #[] ++ ys.extract xs.size = (ys.toList.take k).toArray := by
    intro ys hy
    apply Array.ext'
    simp [hy]
  obtain ⟨h', e, a', sb⟩ := acc_update (f := fun ys => ys.extract 0 (k : Int).toNat ++ #[] ++ ys.extract xs.size) a
  rw [e2 xs rfl] at a'
  show wpAny _ _ (updateSeq x (fun ys => ys.extract 0 (k : Int).toNat ++ #[] ++ ys.extract xs.size) >>= _) _ _ _
  refine wpAny_bind (wpAny_updateSeq ho rfl (wpAny_bind (wpAny_letGo (wpAny_pure ⟨_, rfl, wpAny_pure ?_⟩))) (by rw [sizeLine]; (first | lia | omega)) (by rw [e2 xs rfl, sizeLine]; simp; (first | lia | omega)))
  subst e
  exact h _ a' sb
end
end Mine
end

/-! Me4 -/
section
open PySem PySem.W PySem.W.X PyProof.Rows PySem.Calls
open Sem (wp)
set_option Elab.async false
set_option maxRecDepth 100000
set_option maxHeartbeats 1000000
namespace Mine
abbrev ePU (L : Addr) : Env := callEnv fdPU L 52
theorem fmPU (L : Addr) : Fm (ePU L) := ⟨rfl, rfl, rfl⟩
abbrev ePF (L : Addr) : Env := callEnv fdPF L 60
theorem fmPF (L : Addr) : Fm (ePF L) := ⟨rfl, rfl, rfl⟩
theorem f_append (P : Params) : findIn (KF P) (.ref 108) "append" = some (some (.builtin "list.append")) := by kernel_rfl
theorem t_append (P : Params) : typeIn (KF P) (.builtin "list.append") = some (.type "method_descriptor") := by kernel_rfl
section
variable {w : World} {A : Around} {s : Shared} {x d b : Addr} {xs : Array Value} {env : Env}
local macro_rules | `(tactic| x_close) => `(tactic| (repeat (first | with_reducible refine wpAny_BinOp ?_ | ((with_reducible apply ld (fmPU _)); assumption; rfl; rfl; rfl) | ((with_reducible apply ld (fmPF _)); assumption; rfl; rfl; rfl) | with_reducible refine wpAny_Constant_int ?_ | with_reducible refine wpAny_Constant_str ?_ | with_reducible refine add_int ?_ | with_reducible refine sub_int ?_)))
theorem push_call {Q : Value → Shared → Prop} {a b : Str} {ta tb : Tok} (c : Cx w s.heap) (r : Rm 1 A) (ac : Acc s.heap x d xs) (hz : xs.size ≤ 1000)
    (hQ : ∀ v s', Tp s'.heap v a b → Acc s'.heap x d (xs.push v) → Go [x] s s' → Q .none s') : wpN w A (call (.ref 52) [.ref x, .str a ta, .str b tb]) Q s := by
  refine N.enter [("self", .ref x), ("fws", .str a ta), ("string", .str b tb)] [("self", .ref x), ("fws", .str a ta), ("string", .str b tb)] c (kPU _) (st := metS 1) rfl (by kernel_rfl) r.room (by kernel_rfl) (by kernel_rfl) (by kernel_rfl) (by kernel_rfl) (by kernel_rfl) fun L s0 hLd hL N0 G0 c0 => ?_
  have a0 := ac.go G0
  refine wpAny_execs_cons (wpAny_Expr_any (metN (by rfl) (by rfl) ?_))
  x_close
  refine acc_method c0 a0 (f_append _) (.inr (t_append _)) rfl ?_
  refine callWith_builtin (first := [.ref x]) rfl (evalArgs_plain (sp1 rfl (wpAny_Tuple (sp2 rfl ?_))))
  x_close
  refine ⟨by show 2 ≤ sizeLine; rw [sizeLine]; decide, ?_⟩
  have k1 : ∀ y o, s0.heap.get? y = some o → (s0.heap.push (tpO a b ta tb)).get? y = some o := fun y o e => Heap.get?_push_of_some _ e
  have G1 : Go [] s { s0 with heap := s0.heap.push (tpO a b ta tb) } := G0.new k1
  have ht : (s0.heap.push (tpO a b ta tb)).get? s0.heap.objs.size = some (tpO a b ta tb) := Heap.get?_push_size _ rfl
  refine acc_append (s := { s0 with heap := s0.heap.push (tpO a b ta tb) }) (G1.cx (by simp) c) (a0.keeps k1) hz fun h' a' sb => ?_
  refine wpAny_execs_nil (hQ _ _ ⟨_, _, _, rfl, c0.size, sb.extBut _ _ ?_ ht⟩ a' ((G1.up).upd sb (by simp) ac.lo.1))
  obtain ⟨n, ho⟩ := a0.ob
  exact fun e => absurd (Heap.lt_size ho) (by rw [e]; exact Nat.lt_irrefl _)
theorem acc_getslice {value : Expr} {lower : Option Expr} {p pos : Pos} {k : Nat} {t : Tok} {Q : Value → Shared → Prop} (c : Cx w s.heap) (a : Acc s.heap x d xs) (hk : k ≤ xs.size) (hz : xs.size ≤ 1000)
    (h : wpN w A (eval value env) (fun o s₁ => o = .ref x ∧ s₁ = s ∧ wpN w A (evalPart lower env) (fun v s₂ => v = .int k t ∧ s₂ = s ∧ ∀ s', (∀ y o, s.heap.get? y = some o → s'.heap.get? y = some o) → Go [] s s' → s'.heap.get? (s.heap.objs.size + 1) = some { cls := .type "list", data := .seq (xs.toList.drop k).toArray } → Q (.ref (s.heap.objs.size + 1)) s') s₁) s)
    (ht : ∀ o r, letTemporaryGo value o r = pure ()) : wpN w A (eval (.Subscript value (.Slice lower none none p) pos) env) Q s := by
  rw [eval_Subscript]
  refine wpAny_bind (wpAny_mono h (fun o s₁ h₁ => ?_) fun _ _ z => z)
  obtain ⟨rfl, rfl, h₁⟩ := h₁
  refine wpAny_bind (wpAny_holding (wpAny_Slice (wpAny_mono h₁ (fun v s₂ h₂ => ?_) fun _ _ z => z)))
  obtain ⟨rfl, rfl, h₂⟩ := h₂
  rw [evalPart_none]
  refine wpAny_pure (wpAny_pure ?_)
  refine wpAny_bind (wpAny_standAt ?_)
  have k1 : ∀ y o, s₂.heap.get? y = some o → (s₂.heap.push { cls := .type "slice", data := .fields #[.int k t, .none, .none] }).get? y = some o := fun y o e => Heap.get?_push_of_some _ e
  have c1 : Cx w (s₂.heap.push { cls := .type "slice", data := .fields #[.int k t, .none, .none] }) := c.keeps' k1
  have a1 := a.keeps k1
  refine wpAny_bind ?_
  rw [getitemInPython_of_ne (by intro e; cases e)]
  unfold specialOf
  refine wpAny_bind (wpAny_bind ((acc_type a1).here ((looks_findIn c1.k (f_getitem _)).here ?_)))
  refine wpAny_pure ?_
  refine wpAny_bind (wpAny_operating (acc_slice c1 a1 (Heap.IsSliceOf.new ..) hk hz ?_))
  refine wpAny_bind (wpAny_of_eq (ht _ _) (wpAny_pure ?_))
  rw [show (s₂.heap.push { cls := .type "slice", data := .fields #[.int k t, .none, .none] }).objs.size = s₂.heap.objs.size + 1 from Heap.size_push ..]
  have k2 : ∀ y o, s₂.heap.get? y = some o → ((s₂.heap.push { cls := .type "slice", data := .fields #[.int k t, .none, .none] }).push { cls := .type "list", data := .seq (xs.toList.drop k).toArray }).get? y = some o := fun y o e => Heap.get?_push_of_some _ (k1 y o e)
  refine h₂ _ k2 (.of_keeps k2) ?_
  exact Heap.get?_push_at (Heap.size_push ..).symm rfl
theorem B.enter {f : Addr} {fd : FuncData} {args : List Value} {st : Stmt} {Q : Value → Shared → Prop} (binds l : List (Str × Value)) (c : Cx w s.heap) (hf : (KF w.params).lookup f = some (fnO fd)) (hb : fd.body = .stmts (fnB st))
    (hcd : codeIn (KF w.params) fd.code fd.qualname = true) (hroom : A.depth < recursionLimit) (hbind : BindsTo s fd ⟨args, []⟩ binds)
    (hcell : (fd.scope.names.all fun x => x.2 != .cell) = true) (hloc : (binds.all fun x => decide (fd.scope.names.lookup x.1 = some .local)) = true) (hsc : (fd.scope.isCoroutine, fd.scope.isGenerator, fd.scope.kind) = (false, false, .function))
    (hl : l.map (fun p => binds.reverse.lookup p.1) = l.map (fun p => some p.2))
    (h : ∀ (L : Nat) (s1 : Shared), s.heap.objs.size = L → 135 ≤ L → Nl s1.heap L l → Go [] s s1 → Cx w s1.heap →
      wpN w (A.deeper (callEnv fd L f)) (execs (fnB st) (callEnv fd L f)) (fun fl s' => Q (match fl with | .ret v => v | _ => .none) s') s1) :
    wpN w A (PySem.call (.ref f) args) Q s := C.enter binds l c hf hb hcd hroom hbind hcell hloc hsc hl fun L s1 h1 h2 h3 h4 h5 => wpAt_of_wpAny (h L s1 h1 h2 h3 h4 h5)
def tupIn (K : Frag) (a : Addr) : Option (List Value) := match K.lookup a with
  | some ⟨_, _, .seq vs _, _⟩ => some vs.toList
  | _ => none
theorem tupIn_of {K : Frag} {a : Addr} {vs : List Value} (h : tupIn K a = some vs) : ∃ o n, K.lookup a = some o ∧ o.data = .seq vs.toArray n := by
  unfold tupIn at h
  split at h
  · rename_i e
    cases h
    exact ⟨_, _, e, rfl⟩
  · cases h
theorem k53 (P : Params) : tupIn (KF P) 53 = some [.int 0 (match tupIn (KF P) 53 with | some [.int _ t] => t | _ => 0)] := by kernel_rfl
def liO (vs : List Value) : Obj := { cls := .type "list", data := .seq vs.toArray }
theorem popfrom_call {Q : Value → Shared → Prop} {k : Nat} {t : Tok} (c : Cx w s.heap) (r : Rm 1 A) (ac : Acc s.heap x d xs) (hk : k ≤ xs.size) (hz : xs.size ≤ 1000)
    (hQ : ∀ (l : Nat) s', s.heap.objs.size ≤ l → s'.heap.get? l = some (liO (xs.toList.drop k)) → Acc s'.heap x d (xs.toList.take k).toArray → Go [x] s s' → Q (.ref l) s') : wpN w A (call (.ref 60) [.ref x, .int k t]) Q s := by
  obtain ⟨o53, n53, e53, d53⟩ := tupIn_of (k53 w.params)
  refine B.enter [("self", .ref x), ("i", .int k t)] [("self", .ref x), ("i", .int k t)] c (kPF _) (st := metS 2) rfl (by kernel_rfl) r.room (BindsTo.of_defaults rfl (c.k _ _ e53) d53 (by rfl) (by rfl)) (by kernel_rfl) (by kernel_rfl) (by kernel_rfl) (by kernel_rfl) fun L s0 hLd hL N0 G0 c0 => ?_
  have a0 := ac.go G0
  have lt0 := N0.lt
  refine seqn (asg (acc_getslice (k := k) (t := t) c0 a0 hk hz ?_ (fun _ _ => rfl)) (by rfl))
  x_close
  refine ⟨rfl, rfl, ?_⟩
  rw [evalPart_some]
  x_close
  refine ⟨rfl, rfl, fun s1 hk1 G1 hl1 => ?_⟩
  obtain ⟨l, hl⟩ : ∃ l : Nat, l = s0.heap.objs.size + 1 := ⟨_, rfl⟩
  rw [← hl] at hl1 ⊢
  refine st (fmPF L) (N0.keeps fun o e => hk1 _ _ e) rfl (l' := [("self", .ref x), ("i", .int k t), ("popped", .ref l)]) (by kernel_rfl) fun h2 N2 hs2 => ?_
  have hxL : x ≠ L := by
    obtain ⟨n, ho⟩ := ac.ob
    have h1 := ltN ho
    exact neN (by (first | lia | omega))
  have hdL : d ≠ L := by
    obtain ⟨od, ho, _⟩ := ac.di
    have h1 := ltN ho
    exact neN (by (first | lia | omega))
  have hlL : l ≠ L := by (first | lia | omega)
  refine N.cut (F := fun s2 => Nl s2.heap L [("self", .ref x), ("i", .int k t), ("popped", .ref l)] ∧ s2.heap.get? l = some (liO (xs.toList.drop k)) ∧ Acc s2.heap x d xs ∧ Go [] s s2)
    ⟨N2, hs2.extBut _ _ hlL hl1, ?_, (G0.trans G1).same (tk := s1.toks + 1) hs2 (Nat.le_of_eq hLd)⟩ ?_
  · have a1 := a0.keeps hk1
    obtain ⟨n, ho⟩ := a1.ob
    obtain ⟨od, hd, D⟩ := a1.di
    exact ⟨⟨n, hs2.extBut _ _ hxL ho⟩, ⟨od, hs2.extBut _ _ hdL hd, D⟩, a1.lo⟩
  rintro s2 ⟨N2, hl2, a2, G2⟩
  have c2 := G2.cx (by simp) c
  refine seqn (wpAny_Assign_Subscript (wpAny_List (spliced_nil ⟨by simp, ?_⟩)))
  have k3 : ∀ y o, s2.heap.get? y = some o → (s2.heap.push { cls := .type "list", data := .seq [].toArray }).get? y = some o := fun y o e => Heap.get?_push_of_some _ e
  have N3 := N2.keeps (k3 _)
  have G3 := G2.new (tk := s2.toks) k3
  have hl3 : (s2.heap.push { cls := .type "list", data := .seq [].toArray }).IsList s2.heap.objs.size #[] := ⟨_, Heap.get?_push_size _ rfl, rfl, _, rfl⟩
  have a3 := a2.keeps k3
  have hl2 := k3 _ _ hl2
  x_close
  refine wpAny_Slice ?_
  rw [evalPart_some]
  x_close
  rw [evalPart_none]
  refine wpAny_pure (wpAny_pure ?_)
  have k4 : ∀ y o, (s2.heap.push { cls := .type "list", data := .seq [].toArray }).get? y = some o → ((s2.heap.push { cls := .type "list", data := .seq [].toArray }).push { cls := .type "slice", data := .fields #[.int k t, .none, .none] }).get? y = some o := fun y o e => Heap.get?_push_of_some _ e
  have G4 := G3.new (tk := s2.toks) k4
  have c4 := G4.cx (by simp) c
  have hl4 : ((s2.heap.push { cls := .type "list", data := .seq [].toArray }).push { cls := .type "slice", data := .fields #[.int k t, .none, .none] }).IsList s2.heap.objs.size #[] := by
    obtain ⟨o, ho, r⟩ := hl3
    exact ⟨o, k4 _ _ ho, r⟩
  have N4 := N3.keeps (k4 _)
  have hl5 := k4 _ _ hl2
  refine acc_cut c4 (a3.keeps k4) (Heap.IsSliceOf.new ..) hl4 hk hz fun h5 a5 sb => ?_
  have N5 := N4.but sb (Ne.symm hxL)
  refine seqn (wpAny_Return_some ?_)
  x_close
  refine hQ l _ ?_ (sb.extBut _ _ ?_ hl5) a5 ((G4.up).upd sb (by simp) ac.lo.1)
  · (first | lia | omega)
  · obtain ⟨n, ho⟩ := ac.ob
    have h1 := ltN ho
    exact neN (by (first | lia | omega))
end
end Mine
end

/-! Mk -/
section
open PySem PySem.W PySem.W.X PyProof.Rows PySem.Calls
open Sem (wp)
set_option Elab.async false
set_option maxRecDepth 100000
set_option maxHeartbeats 1000000
namespace Mine
def makesL (K : Frag) (C : Addr) : Bool := match K.lookup C with
  | some ⟨_, _, .cls cd, sl⟩ => !cd.abstract && !cd.hasDel && (sl.toList[4]?).join == some (.builtin "list.__new__") && !cd.mro.isEmpty && cd.mro.contains (.ref C) && cd.mro.contains (.type "list") &&
      specialIn K (.ref C) "__call__" == some (some (.builtin "type.__call__")) && instIn K (.ref C) (.type "type") == some true
  | _ => false
structure MakesL (M : Model) (h : Heap) (C : Addr) : Prop where
  obj : ∃ oc od cd sl, h.get? C = some ⟨oc, od, .cls cd, sl⟩ ∧ cd.abstract = false ∧ cd.hasDel = false ∧ cd.mro.isEmpty = false
  made : Looks M h (Bind.madeBy (.ref C)) (some "list.__new__")
  base : Looks M h (Bind.staticBase (.ref C)) (.ref C)
  self : Looks M h (isSubtype (.ref C) (.ref C)) true
  top : Looks M h (isSubtype (.ref C) (.type "list")) true
  call : Looks M h (specialOf (.ref C) "__call__") (some (.builtin "type.__call__"))
  typ : Looks M h (isInstance (.ref C) (.type "type")) true
theorem makesL_of {K : Frag} {M : Model} {h : Heap} (X : K.In h) {C : Addr} (e : makesL K C = true) : MakesL M h C := by
  unfold makesL at e
  split at e
  · rename_i oc od cd sl ho
    simp only [Bool.and_eq_true, Bool.not_eq_true', beq_iff_eq] at e
    obtain ⟨⟨⟨⟨⟨⟨⟨e1, e2⟩, e3⟩, e4⟩, e5⟩, e6⟩, e7⟩, e8⟩ := e
    have hc : clsIn K C = some cd := by unfold clsIn; rw [ho]
    have hm : Looks M h (mroOf (.ref C)) cd.mro := (looks_clsIn X hc).andThen .now
    obtain ⟨c, l, hl⟩ : ∃ c l, cd.mro = c :: l := by cases q : cd.mro with | nil => rw [q] at e4; cases e4 | cons c l => exact ⟨c, l, rfl⟩
    have made : Looks M h (Bind.madeBy (.ref C)) (some "list.__new__") := by
      intro A Q E s k q
      unfold Bind.madeBy
      refine wpAny_bind (hm A _ E s k ?_)
      rw [hl, List.forIn_cons]
      refine wpAny_bind (wpAny_bind (wpAny_bind (wpAny_bind (wpAny_loadPart (k _ _ (X _ _ ho)) (wpAny_pure ?_)))))
      dsimp only
      rw [← Array.getElem?_toList, e3]
      exact wpAny_pure (wpAny_pure (wpAny_pure q))
    refine ⟨⟨oc, od, cd, sl, X _ _ ho, e1, e2, e4⟩, made, ?_, looks_mroIn X ?_, looks_mroIn X ?_, looks_specialIn X e7, looks_instIn X e8⟩
    · intro A Q E s k q
      unfold Bind.staticBase
      refine wpAny_bind (hm A _ E s k ?_)
      rw [hl, List.forIn_cons]
      exact wpAny_bind (wpAny_bind (wpAny_bind (made A _ E s k (wpAny_pure (wpAny_pure (wpAny_pure q))))))
    · unfold mroIn; rw [hc, Option.bind_some, if_neg (by rw [e4]; decide), e5]
    · unfold mroIn; rw [hc, Option.bind_some, if_neg (by rw [e4]; decide), e6]
  · cases e
theorem mk108 (P : Params) : makesL (KF P) 108 = true := by kernel_rfl
abbrev lstI (dx : Addr) : Obj := { cls := .ref 108, dict := some dx, data := .seq #[] }
theorem n_kind : builtinKind "list.__new__" = some .builtinFn := by decide +kernel
theorem n_split : splitId "list.__new__" = some ("list", "__new__") := by decide +kernel
section
variable {w : World} {A : Around} {C : Addr} {R : Result → Shared → Prop} {h : Heap} {g : Array GenState} {d : Drawn} {t : Nat} {os : OsState}
theorem newL (Y : MakesL (model pr w) h 108)
    (hq : R (.ok (.ret (.ref (h.objs.size + 1)))) ⟨(h.push emptyDict).push (lstI h.objs.size), g, d, t, os⟩) :
    codeAny (model pr w) A (.call (.builtin "list.__new__") ⟨[.ref 108], []⟩) R ⟨h, g, d, t, os⟩ := by
  obtain ⟨⟨oc, od, cd, sl, hC, e1, e2, e4⟩, made, base, self, top, call, typ⟩ := Y
  refine codeAny_of_tree ?_
  show wpAny _ A.in1 (do checkBuiltinCall "list.__new__" ⟨[.ref 108], []⟩; again (.builtin "list.__new__" ⟨[.ref 108], []⟩)) _ _ _
  have here : Looks (model pr w) h (Bind.madeHere "list.__new__" (.ref 108)) () := base.andThen (made.andThen (Looks.of_pure (by simp only [Option.map_some, bne_self_eq_false, Bool.false_eq_true, if_false])))
  have ck : wpN w A.in1 (checkBuiltinCall "list.__new__" ⟨[.ref 108], []⟩) (fun _ s' => s' = ⟨h, g, d, t, os⟩) ⟨h, g, d, t, os⟩ := by
    simp only [checkBuiltinCall, n_kind, n_split]
    rw [if_pos (by decide)]
    refine wpAny_bind (ks_wpAny_isType_cls hC rfl ?_)
    rw [if_neg (by decide)]
    refine wpAny_bind (top.at ?_)
    rw [if_neg (by decide)]
    refine wpAny_bind (base.at ?_)
    refine wpAny_bind (made.at ?_)
    dsimp only
    rw [if_neg (by simp)]
    refine wpAny_of_eq (a := ()) ?_ rfl
    kernel_rfl
  refine wpAny_bind (wpAny_mono (wpN.up ck) (fun _ s' e => ?_) fun _ _ z => z)
  subst e
  refine wpAny_pure ⟨plainId_quiet F.plain_list_new _, codeAny_builtin_stack F.entry_list_new rfl fun p st => ?_⟩
  rw [Around.under_plainId F.plain_list_new _]
  have hown := owner_list_new
  simp only [hown]
  refine wpAny_bind (ks_wpAny_isType_cls hC rfl ?_)
  rw [if_neg (by decide)]
  refine wpAny_bind (top.at ?_)
  rw [if_neg (by decide)]
  refine wpAny_bind (wpAny_pure ?_)
  rw [if_neg (by decide)]
  show wpAny _ _ (newObj (.type "dict") (.dict #[]) >>= _) _ _ _
  refine wpAny_bind (wpAny_newObj_type ?_ (by size_fits))
  dsimp only
  show wpAny _ _ (newObjAsIs _ _ _ >>= _) _ _ _
  unfold newObjAsIs classHasDel
  refine wpAny_bind (wpAny_bind (wpAny_alloc (wpAny_bind (wpAny_bind (wpAny_load (Heap.get?_push_of_some _ (Heap.get?_push_of_some _ hC)) (wpAny_pure ?_))))))
  rw [e2]
  refine wpAny_pure (wpAny_pure ?_)
  show R _ _
  rw [Heap.size_push]
  exact hq
theorem makeL {fI : Addr} (Y : MakesL (model pr w) h 108) (hi : Looks (model pr w) h (typeLookup (.ref 108) "__init__") (some (.ref fI)))
    (hb : ∀ self, Looks (model pr w) h (bindSpecial (.ref fI) self) (.ref fI, [self]))
    (hq : codeAny (model pr w) (A.under (.builtin "type.__call__" ⟨[.ref 108], []⟩)) (.call (.ref fI) ⟨[.ref (h.objs.size + 1)], []⟩) (InitBack (h.objs.size + 1) R) ⟨(h.push emptyDict).push (lstI h.objs.size), g, d, t, os⟩) :
    codeAny (model pr w) A (.call (.ref 108) ⟨[], []⟩) R ⟨h, g, d, t, os⟩ := by
  have Y' := Y
  obtain ⟨⟨oc, od, cd, sl, hC, e1, e2, e4⟩, made, base, self, top, call, typ⟩ := Y
  refine codeAny_of_tree ?_
  show wpAny _ _ (callAny (.ref 108) _) _ _ _
  refine nd_load hC ?_
  show wpAny _ _ (callAny.viaDunder (.ref 108) _) _ _ _
  unfold callAny.viaDunder
  refine wpAny_bind (call.at ?_)
  dsimp only
  rw [tc_bind]
  refine wpAny_bind (wpAny_pure (wpAny_bind (wpAny_pure ?_)))
  refine wpAny_pure (a := Fin.again (.call (.builtin "type.__call__") ⟨[.ref 108], []⟩)) (And.intro rfl ?_)
  refine codeAny_call_builtin_at (Code.quiet_builtin _ (by decide +kernel)) entry_typeCall (check_slot tc_kind tc_split typ (tc_args _ _ _) ?_)
  unfold Builtin.«type.__call__»
  have hm : Looks (model pr w) h (mroOf (.ref 108)) cd.mro := ((Looks.ld (part := none) hC).andThen .now).andThen .now
  repeat (first | simp only [e4, Bool.false_eq_true, if_false] | with_reducible refine wpAny_call ?_ | lk)
  refine newL Y' ?_
  have k : ∀ b o, h.get? b = some o → ((h.push emptyDict).push (lstI h.objs.size)).get? b = some o := fun b o e => Heap.get?_push_of_some _ (Heap.get?_push_of_some _ e)
  have hx : ((h.push emptyDict).push (lstI h.objs.size)).get? (h.objs.size + 1) = some (lstI h.objs.size) := by heap_get
  have t1 : Looks (model pr w) ((h.push emptyDict).push (lstI h.objs.size)) (typeOf (.ref (h.objs.size + 1))) (.ref 108) := (Looks.ld hx).andThen .now
  have s1 := self.keeps k
  have i1 := hi.keeps k
  have b1 := (hb (.ref (h.objs.size + 1))).keeps k
  unfold isInstance callSpecial? specialOf
  repeat (first | with_reducible refine wpAny_call ?_ | lk)
  refine codeAny_mono hq fun r s' z => ?_
  rcases r with e | (v | _ | _ | _) <;> first | exact z | exact z.elim | skip
  obtain ⟨rfl, z⟩ := z
  exact wpAny_pure (wpAny_pure z)
end
end Mine
end

/-! Mk2 -/
section
open PySem PySem.W PySem.W.X PyProof.Rows PySem.Calls
open Sem (wp)
set_option Elab.async false
set_option maxRecDepth 100000
set_option maxHeartbeats 1000000
namespace Mine
theorem mro108 (P : Params) : (clsIn (KF P) 108).map (·.mro) = some [.ref 108, .type "list", .type "object"] := by kernel_rfl
theorem m_obj (P : Params) : mroIn (KF P) 108 (.type "object") = some true := by kernel_rfl
theorem ref_list (self : Value) : refuseLoop self "__setattr__" [.type "list", .type "object"] = pure () := by kernel_rfl
theorem tk108 (P : Params) : takerIn (KF P) 108 "_initial_size" = some none := by kernel_rfl
theorem hd108 (P : Params) : (clsIn (KF P) 108).any (·.hasDict) = true := by kernel_rfl
theorem f_setattr (P : Params) : findIn (KF P) (.ref 108) "__setattr__" = some (some (.builtin "object.__setattr__")) := by kernel_rfl
section
variable {w : World} {A : Around} {s : Shared} {x d : Addr}
theorem osaL {R : Result → Shared → Prop} {ox : Obj} {od : Option Obj} {tk : Tok} {v : Value} (c : Cx w s.heap) (I : InstAt s.heap x ox 108 od)
    (h : wpAny (model pr w) A.in1 (Builtin.ObjectAttr.storeInOwnDict (.ref x) (.ref 108) (.str "_initial_size" tk) "_initial_size" v false)
      (fun fin s' => match fin with | .done f => R (.ok f) s' | .again c' => c'.quiet = true ∧ codeAny (model pr w) A c' R s') (fun e s' => R (.error e) s') s) :
    codeAny (model pr w) A (.call (.builtin "object.__setattr__") ⟨[.ref x, .str "_initial_size" tk, v], []⟩) R s := by
  have X := c.k
  have SF := PySem.F.store_object
  obtain ⟨cd, hc, hmr⟩ : ∃ cd, clsIn (KF w.params) 108 = some cd ∧ cd.mro = [.ref 108, .type "list", .type "object"] := by
    have := mro108 w.params
    cases h : clsIn (KF w.params) 108 with
    | none => rw [h] at this; cases this
    | some cd => rw [h] at this; exact ⟨cd, rfl, Option.some.inj this⟩
  have sub : Looks (model pr w) s.heap (isInstance (.ref x) (.type "object")) true := I.type.andThen (looks_mroIn X (m_obj _))
  refine codeAny_call_builtin SF.slot.plain SF.entry (@check_slot (model pr w) _ _ s "object.__setattr__" "object" "__setattr__" (.ref x) [.str "_initial_size" tk, v] [] _ SF.kind SF.split sub (SF.args (.ref x) (.str "_initial_size" tk) v) ?_)
  have ha : findIn (KF w.params) (.ref 108) "_initial_size" = some none := by kernel_rfl
  have hm : Looks (model pr w) s.heap (mroOf (.ref 108)) cd.mro := (looks_clsIn X hc).andThen .now
  rw [osa_eq, refuse_eq]
  refine wpAny_bind (wpAny_bind (I.type.here (wpAny_bind (hm.here ?_))))
  rw [hmr, refuseLoop_ref, ref_list]
  exact wpAny_pure (wpAny_bind (I.type.here (wpAny_bind ((looks_findIn X ha).here (wpAny_bind (wpAny_pure h))))))
theorem set_size {v : Value} {ox : Obj} {Q : Unit → Shared → Prop} (c : Cx w s.heap) (hx : s.heap.get? x = some ox) (hc : ox.cls = .ref 108) (hn : notCls ox = true) (hdd : ox.dict = some d) (hd : s.heap.get? d = some emptyDict)
    (h : ∀ h' hh t1, h'.get? d = some ⟨.type "dict", none, .dict #[⟨hh, .str "_initial_size" t1, v⟩] 1, #[]⟩ → Heap.SameBut d s.heap h' → Q () { s with heap := h', toks := s.toks + 2 }) : wpN w A (setAttr (.ref x) "_initial_size" v) Q s := by
  have I : InstAt s.heap x ox 108 (some emptyDict) := ⟨hx, hc, hn, by rw [hdd]; exact hd⟩
  refine set_plain c.k I (f_setattr _) (osaL (s := { s with toks := s.toks + 1 }) c I ?_)
  obtain ⟨cd, hcd, hd'⟩ := any_some (hd108 w.params)
  obtain ⟨oc, odi, oda, osl⟩ := ox
  dsimp only at hc hdd
  subst hc hdd
  refine wpAny_bind (wpAny_pure (wpAny_bind (wpAny_bind (wpAny_loadPart hx (wpAny_bind ((looks_clsIn (h := s.heap) c.k hcd).here (s := { s with toks := s.toks + 1 }) ?_))))))
  rw [hd']
  refine wpAny_pure (a := some d) (wpAny_bind (wpAny_pure (wpAny_bind ?_)))
  unfold nsSet
  refine wpAny_bind (wpAny_bind (wpAny_askSetting (wpAny_pure (wpAny_bind (wpAny_mkText (wpAny_bind (wpAny_loadPart hd ?_)))))))
  dsimp only
  rw [aRefKeyMayBeTheName_at]
  rw [if_neg (by simp)]
  obtain ⟨f, hf⟩ : ∃ f, f = Obj.putName (Str.ofString "_initial_size") (if (Str.ofString "_initial_size").cps.isEmpty = true then 0 else reduceHash ((model pr w).w.params.strHash (Str.ofString "_initial_size").cps)) (Value.str (Str.ofString "_initial_size") (s.toks + 1)) v := ⟨_, rfl⟩
  rw [← hf]
  have e1 : ∃ hh, f emptyDict = ⟨.type "dict", none, .dict #[⟨hh, .str "_initial_size" (s.toks + 1), v⟩] 1, #[]⟩ := by
    rw [hf]
    exact ⟨_, putName_dict _ _ _ _ [] 0⟩
  obtain ⟨hh, e1⟩ := e1
  refine wpAny_updatePart (s := { s with toks := s.toks + 1 + 1 }) hd ?_
  have D' : (s.heap.update d f).get? d = some (f emptyDict) := Heap.get?_update_self _ hd (by rw [e1]; rfl)
  rw [e1] at D'
  refine wpAny_bind (wpAny_lookBehind D' (pastItsLine_dict (by show 1 ≤ _; rw [sizeLine_eq]; (first | lia | omega))) ?_)
  exact wpAny_pure (h _ _ _ D' (Heap.SameBut.update ..))
end
end Mine
end

/-! Mk3 -/
section
open PySem PySem.W PySem.W.X PyProof.Rows PySem.Calls
open Sem (wp)
set_option Elab.async false
set_option maxRecDepth 100000
set_option maxHeartbeats 1000000
namespace Mine
abbrev eIN (L : Addr) : Env := callEnv fdIN L 45
theorem fmIN (L : Addr) : Fm (eIN L) := ⟨rfl, rfl, rfl⟩
theorem k37 (P : Params) : tupIn (KF P) 37 = some [.int 0 (match tupIn (KF P) 37 with | some [.int _ t] => t | _ => 0)] := by kernel_rfl
theorem f_init (P : Params) : findIn (KF P) (.ref 108) "__init__" = some (some (.ref 45)) := by kernel_rfl
theorem t_45 (P : Params) : typeIn (KF P) (.ref 45) = some (.type "function") := by kernel_rfl
theorem t_108 (P : Params) : typeIn (KF P) (.ref 108) = some (.type "type") := by kernel_rfl
section
variable {w : World} {A : Around} {s : Shared} {x d : Addr}
local macro_rules | `(tactic| x_close) => `(tactic| (repeat (first | ((with_reducible apply ld (fmIN _)); assumption; rfl; rfl; rfl))))
theorem CC.enter {f : Addr} {fd : FuncData} {args : List Value} {st : Stmt} {Q : Value → Shared → Prop} (binds l : List (Str × Value)) (c : Cx w s.heap) (hf : (KF w.params).lookup f = some (fnO fd)) (hb : fd.body = .stmts (fnB st))
    (hcd : codeIn (KF w.params) fd.code fd.qualname = true) (hroom : A.depth < recursionLimit) (hbind : BindsTo s fd ⟨args, []⟩ binds)
    (hcell : (fd.scope.names.all fun x => x.2 != .cell) = true) (hloc : (binds.all fun x => decide (fd.scope.names.lookup x.1 = some .local)) = true) (hsc : (fd.scope.isCoroutine, fd.scope.isGenerator, fd.scope.kind) = (false, false, .function))
    (hl : l.map (fun p => binds.reverse.lookup p.1) = l.map (fun p => some p.2))
    (h : ∀ (L : Nat) (s1 : Shared), s.heap.objs.size = L → 135 ≤ L → Nl s1.heap L l → Go [] s s1 → Cx w s1.heap →
      wpC w (A.deeper (callEnv fd L f)) (.func (fnB st) (callEnv fd L f)) (execs (fnB st) (callEnv fd L f)) (fun fl s' => Q (match fl with | .ret v => v | _ => .none) s') s1) :
    codeAny (model pr w) A (.call (.ref f) ⟨args, []⟩) (fun r s' => ∃ v, r = .ok (.ret v) ∧ Q v s') s := by
  simp only [Prod.mk.injEq] at hsc
  refine (ks_codeAny_call_defAt (fd := fd) (body := fnB st) (binds := binds) hroom (c.k _ _ hf) rfl c.nolimit (codeRec_of c.k hcd) hb hbind (fun x hx => ?_) (locs hloc) (fun h₀ hns hk => ?_) hsc.1 hsc.2.1 hsc.2.2)
  · have := List.all_eq_true.mp hcell x hx
    simpa using this
  · exact ks_wpAt_mono (h _ { s with heap := h₀, toks := s.toks + binds.length } rfl c.size (Nl.of hns hl) (.of_keeps hk) ((Go.of_keeps (W := []) (tk := s.toks + binds.length) hk).cx (by simp) c)) (fun fl s' h' => ⟨_, rfl, h'⟩) fun _ _ z => z.elim
theorem Go.drop {W : List Addr} {s₀ s s' : Shared} (x : Go [] s₀ s) (y : Go W s s') (hW : ∀ a ∈ W, s₀.heap.objs.size ≤ a) : Go [] s₀ s' :=
  ⟨fun a o hn h7 h8 e => y.keep a o (fun hm => absurd (Heap.lt_size e) (Nat.not_lt.mpr (hW a hm))) h7 h8 (x.keep a o hn h7 h8 e), fun g => y.gens (x.gens g), y.dr.trans x.dr, y.os.trans x.os, fun t => y.tab (x.tab t)⟩
theorem init_call {n : Nat} {Q : Value → Shared → Prop} (c : Cx w s.heap) (r : Rm 1 A) (hx : s.heap.get? x = some ⟨.ref 108, some d, .seq #[] n, #[]⟩) (hd : s.heap.get? d = some emptyDict) (lx : 135 ≤ x) (l2 : 135 ≤ d)
    (hQ : ∀ s', Acc s'.heap x d #[] → Go [x, d] s s' → Q .none s') : codeAny (model pr w) A (.call (.ref 45) ⟨[.ref x], []⟩) (fun r s' => ∃ v, r = .ok (.ret v) ∧ Q v s') s := by
  obtain ⟨o37, n37, e37, d37⟩ := tupIn_of (k37 w.params)
  generalize (match tupIn (KF w.params) 37 with | some [.int _ t] => t | _ => 0) = t37 at d37
  refine CC.enter [("self", .ref x), ("initial_size", .int 0 t37)] [("self", .ref x), ("initial_size", .int 0 t37)] c (kIN _) (st := metS 0) rfl (by kernel_rfl) r.room (BindsTo.of_defaults rfl (c.k _ _ e37) d37 (by rfl) (by rfl)) (by kernel_rfl) (by kernel_rfl) (by kernel_rfl) (by kernel_rfl) fun L s0 hLd hL N0 G0 c0 => ?_
  have hx0 := G0.get hx lx
  have hd0 := G0.get hd l2
  have z1 := ltN hx
  have z2 := ltN hd
  refine ks_wpAt_execs_cons (ks_wpAt_Assign_Attr (wpAt_of_wpAny ?_))
  x_close
  refine set_size c0 hx0 rfl rfl rfl hd0 fun h1 hh t1 hd1 sb1 => ?_
  have hxd : x ≠ d := by
    rintro rfl
    rw [hx] at hd
    cases hd
  have hx1 := sb1.extBut _ _ hxd hx0
  have G1 : Go [x, d] s { s0 with heap := h1, toks := s0.toks + 2 } := (G0.up).upd sb1 (by simp) l2
  have c1 : Cx w h1 := G1.cx (by simp; exact ⟨lx, l2⟩) c
  have N1 := N0.but sb1 (neN (by (first | lia | omega)))
  refine ks_wpAt_execs_cons (ks_wpAt_Expr_any ?_)
  refine sup_call (fmIN L) c1 (kIN _) N1 (ar := fdIN.params.args.head?.getD ⟨"self", none, ⟨0, 0, 0, 0⟩⟩) rfl hx1 rfl (fun _ e => nomatch e) (ne108 lx) rfl rfl rfl rfl rfl rfl (by kernel_rfl) rfl (su_init _) t_init s_wget e_wget a_wget rfl
    (fun s' ho' c' A' Q' E' hq' => wget_init ho' rfl (looks_mroIn c'.k (m_list _)) hq') (by decide +kernel) F.entry_list_init (fun s' ho' c' => wpAny_of_eq (chk_init _) rfl) fun s' hk' G' => ?_
  refine body_init (hk' _ _ hx1) fun h2 n2 hx2 sb2 => ?_
  refine wpAt_of_wpAny (wpAny_execs_nil (hQ _ ⟨⟨n2, hx2⟩, ⟨_, sb2.extBut _ _ (Ne.symm hxd) (hk' _ _ hd1), ⟨_, _, _, rfl⟩⟩, lx, l2⟩ ?_))
  exact (G1.trans (G'.up)).upd sb2 (by simp) lx
/-- _Accumulator() -/
theorem new_acc {Q : Value → Shared → Prop} (c : Cx w s.heap) (r : Rm 3 A) (hQ : ∀ (x d : Nat) s', s.heap.objs.size ≤ x → s.heap.objs.size ≤ d → Acc s'.heap x d #[] → Go [] s s' → Q (.ref x) s') : wpN w A (call (.ref 108) []) Q s := by
  have hz := c.size
  obtain ⟨h, g, dd, t, os⟩ := s
  refine wpAny_call (makeL (makesL_of c.k (mk108 _)) (looks_findIn c.k (f_init _)) (fun self => bind_fn c.k self (t_45 _)) ?_)
  have k : ∀ b o, h.get? b = some o → ((h.push emptyDict).push (lstI h.objs.size)).get? b = some o := fun b o e => Heap.get?_push_of_some _ (Heap.get?_push_of_some _ e)
  have hx : ((h.push emptyDict).push (lstI h.objs.size)).get? (h.objs.size + 1) = some (lstI h.objs.size) := by heap_get
  have hd : ((h.push emptyDict).push (lstI h.objs.size)).get? h.objs.size = some emptyDict := by heap_get
  have c1 : Cx w ((h.push emptyDict).push (lstI h.objs.size)) := c.keeps' k
  have cu : (Code.builtin "type.__call__" ⟨[.ref 108], []⟩).cUnits ≤ 5 := by decide +kernel
  have r1 : Rm 1 (A.under (.builtin "type.__call__" ⟨[.ref 108], []⟩)) := by
    have h1 := r.d
    have h2 := r.u
    refine ⟨r.h, ?_, ?_⟩
    · show A.depth + 1 + 1 ≤ 400; (first | lia | omega)
    · show A.units + (Code.builtin "type.__call__" ⟨[.ref 108], []⟩).cUnits + 10 * 1 ≤ 1000; (first | lia | omega)
  refine codeAny_mono (init_call (s := ⟨(h.push emptyDict).push (lstI h.objs.size), g, dd, t, os⟩) (Q := fun v s' => v = .none ∧ Q (.ref (h.objs.size + 1)) s') c1 r1 hx hd (Nat.le_succ_of_le hz) hz fun s' a' G' => ?_) fun r s' z => ?_
  · refine ⟨rfl, hQ _ _ _ (Nat.le_succ _) (Nat.le_refl _) a' ?_⟩
    refine Go.drop (s := ⟨(h.push emptyDict).push (lstI h.objs.size), g, dd, t, os⟩) (.of_keeps (s := ⟨h, g, dd, t, os⟩) k) G' ?_
    intro a ha
    simp only [List.mem_cons, List.not_mem_nil, or_false] at ha
    rcases ha with rfl | rfl
    · exact Nat.le_succ _
    · exact Nat.le_refl _
  · obtain ⟨v, rfl, rfl, z⟩ := z
    exact ⟨rfl, z⟩
end
end Mine
end

/-! It -/
section
open PySem PySem.W PySem.W.X PyProof.Rows PySem.Calls
open Sem (wp)
set_option Elab.async false
set_option maxRecDepth 100000
set_option maxHeartbeats 1000000
namespace Mine
/-- a sequence of any class -/
def Sq (h : Heap) (a : Addr) (items : Array Value) : Prop := ∃ o n, h.get? a = some o ∧ o.data = .seq items n
theorem Acc.sq {h : Heap} {x d : Addr} {xs : Array Value} (a : Acc h x d xs) : Sq h x xs := by
  obtain ⟨n, ho⟩ := a.ob
  exact ⟨_, n, ho, rfl⟩
theorem Sq.keeps {h h' : Heap} {a : Addr} {xs : Array Value} (q : Sq h a xs) (hk : ∀ o, h.get? a = some o → h'.get? a = some o) : Sq h' a xs := by
  obtain ⟨o, n, e, r⟩ := q
  exact ⟨o, n, hk o e, r⟩
theorem f_iter (P : Params) : findIn (KF P) (.ref 108) "__iter__" = some (some (.builtin "list.__iter__")) := by kernel_rfl
section
variable {w : World} {A : Around} {s : Shared} {x d : Addr} {xs : Array Value}
abbrev liI (x : Addr) : Obj := { cls := .type "list_iterator", data := .fields #[.ref x, .int 0 0] }
theorem acc_iter {Q : Value → Shared → Prop} (c : Cx w s.heap) (a : Acc s.heap x d xs) (h : Q (.ref s.heap.objs.size) { s with heap := s.heap.push (liI x) }) : wpN w A (pyIter (.ref x)) Q s := by
  have hb := slot_list_iter.bind (.ref x)
  unfold pyIter specialOf
  refine wpAny_bind (wpAny_bind ((acc_type a).here ((looks_findIn c.k (f_iter _)).here ?_)))
  dsimp only
  refine wpAny_bind ?_
  simp only [callSpecialIfBoundUnlessNone?, bindSpecialIfBound?]
  unfold specialOf
  refine wpAny_holding (wpAny_bind (wpAny_bind (wpAny_bind ((acc_type a).here ((looks_findIn c.k (f_iter _)).here ?_)))))
  simp only [hb]
  refine wpAny_bind (wpAny_askSetting (wpAny_ite ?_))
  have fin : ∀ {Q' : Option Value → Shared → Prop} {rf : Sem Value}, Q' (some (.ref s.heap.objs.size)) { s with heap := s.heap.push (liI x) } → wpN w A (if (Value.builtin "list.__iter__" == Value.none) = true then (rf >>= fun v => pure (some v)) else (call (.builtin "list.__iter__") [.ref x] >>= fun v => pure (some v))) Q' s := by
    intro Q' rf h'
    rw [if_neg (by decide)]
    refine wpAny_bind (acc_entry (n := "__iter__") c a (by decide +kernel) (.inl (by decide +kernel)) (by decide +kernel) entry_list_iter (args_list_iter _) ?_)
    show wpAny _ _ (do ret (← newFields "list_iterator" [.ref x, rawInt 0])) _ _ s
    exact wpAny_bind (wpAny_newObj_type (wpAny_pure ⟨_, rfl, wpAny_pure h'⟩))
  have hT : ({ s with heap := s.heap.push (liI x) } : Shared).TypeIs (.ref s.heap.objs.size) "list_iterator" := ⟨_, Heap.get?_push_size _ rfl, rfl⟩
  split
  · refine wpAny_bind (wpAny_pure (wpAny_pure (fin ?_)))
    exact wpAny_bind (wpAny_bind (wpAny_typeOf hT (wpAny_of_eq slot_listiter_next.lookup (wpAny_pure h))))
  · refine wpAny_tryCatch (wpAny_bind (wpAny_pure (wpAny_pure (fin ?_))))
    exact wpAny_bind (wpAny_bind (wpAny_typeOf hT (wpAny_of_eq slot_listiter_next.lookup (wpAny_pure h))))
theorem sq_item {E : Value → Shared → Prop} {it l : Addr} {i : Nat} {items : Array Value} {v : Value} {Q : Option Value → Shared → Prop} (hit : s.heap.IsListIter it l i) (hl : Sq s.heap l items) (hx : items[i]? = some v)
    (hQ : ∀ h', h'.IsListIter it l (i + 1) → Heap.SameBut it s.heap h' → Q (some v) { s with heap := h' }) : wpAny (model pr w) A (pyNext (.ref it)) Q E s := by
  obtain ⟨o, ho, hc, hd⟩ := id hit
  obtain ⟨ol, nl, hol, hdl⟩ := hl
  unfold pyNext
  refine wpAny_bind (wpAny_attempt (wpAny_callSpecial?_slot (name := Str.ofString "__next__") hit.typeIs slot_listiter_next
    (wpAny_call_entry slot_listiter_next hit.typeIs entry_listiter_next ?_ (args_listiter_next _))))
  show wpAny _ _ (field (.ref it) 0 >>= _) _ _ s
  refine wpAny_bind (wpAny_field ho hd (x := .ref l) rfl ?_)
  show wpAny _ _ (if (Value.ref l == Value.none) = true then _ else _) _ _ s
  rw [if_neg (show ¬ ((Value.ref l == Value.none) = true) from Bool.false_ne_true)]
  show wpAny _ _ (field (.ref it) 1 >>= _) _ _ s
  refine wpAny_bind (wpAny_field ho hd (x := .int i 0) rfl ?_)
  show wpAny _ _ (seqItems? (.ref l) >>= _) _ _ s
  refine wpAny_bind (wpAny_seqItems hol hdl ?_)
  simp only [Int.toNat_natCast, hx]
  refine wpAny_bind (wpAny_setField ho hd (by simp) (wpAny_pure ⟨v, rfl, wpAny_pure (hQ _ ⟨_, Heap.get?_update_self _ ho (Obj.isFreed_of_fields (Obj.data_mapFields hd _)), (Obj.cls_mapFields ..).trans hc, ?_⟩ (Heap.SameBut.update ..))⟩))
  rw [Obj.data_mapFields hd]; simp [rawInt]
theorem sq_end {E : Value → Shared → Prop} {it l : Addr} {i : Nat} {items : Array Value} {Q : Option Value → Shared → Prop} (hh : A.handled = none) (hit : s.heap.IsListIter it l i) (hl : Sq s.heap l items) (hx : items[i]? = none)
    (hQ : ∀ h', Heap.ExtBut it s.heap h' → Q none { s with heap := h' }) : wpAny (model pr w) A (pyNext (.ref it)) Q E s := by
  obtain ⟨o, ho, hc, hd⟩ := id hit
  obtain ⟨ol, nl, hol, hdl⟩ := hl
  unfold pyNext
  refine wpAny_bind (wpAny_attempt (wpAny_callSpecial?_slot (name := Str.ofString "__next__") hit.typeIs slot_listiter_next
    (wpAny_call_entry slot_listiter_next hit.typeIs entry_listiter_next ?_ (args_listiter_next _))))
  show wpAny _ _ (field (.ref it) 0 >>= _) _ _ s
  refine wpAny_bind (wpAny_field ho hd (x := .ref l) rfl ?_)
  show wpAny _ _ (if (Value.ref l == Value.none) = true then _ else _) _ _ s
  rw [if_neg (show ¬ ((Value.ref l == Value.none) = true) from Bool.false_ne_true)]
  show wpAny _ _ (field (.ref it) 1 >>= _) _ _ s
  refine wpAny_bind (wpAny_field ho hd (x := .int i 0) rfl ?_)
  show wpAny _ _ (seqItems? (.ref l) >>= _) _ _ s
  refine wpAny_bind (wpAny_seqItems hol hdl ?_)
  simp only [Int.toNat_natCast, hx]
  refine wpAny_bind (wpAny_rule (wpAny_bind (wpAny_setField ho hd (by simp) ?_)))
  show wpAny _ _ (newExc (.type "StopIteration") [] >>= _) _ _ _
  refine wpAny_bind ?_
  simp only [newExc, newTuple]
  refine wpAny_bind (wpAny_newObj_type ?_ (by size_fits))
  refine wpAny_bind (m := firstArgMember _ _) (wpAny_of_eq (a := Value.none) (by first | rfl | (simp only [firstArgMember]; rfl)) ?_)
  refine wpAny_newObj_type ?_ (by size_fits)
  simp only [raiseNew]
  refine wpAny_bind (wpAny_handled ?_)
  rw [show A.in1.handled = none from hh]
  refine wpAny_bind (wpAny_pure (wpAny_throw ?_))
  refine wpAny_bind (wpAny_isInstance (T := "StopIteration") (b := true) ⟨_, Heap.get?_push_size _ rfl, rfl⟩ isSubtype_stop ?_)
  exact wpAny_pure (hQ _ (((Heap.SameBut.update ..).extBut.push _).push _))
theorem walks_sq (hh : A.handled = none) (I ax : Addr) (hne : ax ≠ I) (items : Array Value) :
    Walks pr w A I [I, ax] [I] items.size (fun i v => items[i]? = some v) (fun i h => h.IsListIter I ax i ∧ Sq h ax items) where
  sub := fun b hb => by simp at hb; simp [hb]
  frame := fun _ _ _ st hk => ⟨st.1.at fun o e => hk I (by simp) o e, st.2.keeps fun o e => hk ax (by simp) o e⟩
  item := fun i s Q E hi st hQ => by
    refine sq_item st.1 st.2 (v := items[i]) (by simp [hi]) fun h' hit' hs' => ?_
    exact hQ _ h' s.toks (by simp [hi]) ⟨hit', st.2.keeps fun o e => hs'.extBut _ _ hne e⟩ fun b o hb e => hs'.extBut b o (fun h => hb (by simp [h])) e
  done := fun s Q E st hQ => sq_end hh st.1 st.2 (by simp) fun h' he' => hQ h' s.toks fun b o hb e => he' b o (fun h => hb (by simp [h])) e
  self := fun _ _ _ _ st hQ => wpAny_pyIter_listiter st.1 hQ
end
end Mine
end

/-! Cm -/
section
open PySem PySem.W PySem.W.X PyProof.Rows PySem.Calls
open Sem (wp)
set_option Elab.async false
set_option maxRecDepth 100000
set_option maxHeartbeats 1000000
namespace Mine
def cEnv (scope : Scope) (cl : List (Str × Addr)) (C : Addr) (env : Env) : Env :=
  { scope := relabel scope env, locals := C, globals := env.globals, cells := cellsFrom (C + 1) scope.names cl, qual := env.qual, func := none, code := env.code, frame := env.frame, builtins := env.builtins }
def tests (ifs : List Expr) (env : Env) : Sem Bool := forIn ifs true fun c r => if r = true then do let ok ← isTrue c env (eval c env); pure (ForInStep.yield ok) else pure (ForInStep.yield r)
/-- a list -/
def Ls (h : Heap) (a : Addr) (vs : List Value) : Prop := ∃ n, h.get? a = some ⟨.type "list", none, .seq vs.toArray n, #[]⟩
theorem Ls.isList {h : Heap} {a : Addr} {vs : List Value} (l : Ls h a vs) : h.IsList a vs.toArray := by
  obtain ⟨n, e⟩ := l
  exact ⟨_, e, rfl, n, rfl⟩
theorem Ls.keeps {h h' : Heap} {a : Addr} {vs : List Value} (l : Ls h a vs) (hk : ∀ o, h.get? a = some o → h'.get? a = some o) : Ls h' a vs := by
  obtain ⟨n, e⟩ := l
  exact ⟨n, hk _ e⟩
section
variable {w : World} {A : Around} {s : Shared} {env : Env}
theorem ls_append {a : Addr} {vs : List Value} {v : Value} {Q : Value → Shared → Prop} (hl : Ls s.heap a vs) (hz : vs.length ≤ 1000) (h : ∀ h', Ls h' a (vs ++ [v]) → Heap.SameBut a s.heap h' → Q .none { s with heap := h' }) :
    wpN w A (call (.builtin "list.append") [.ref a, v]) Q s := by
  obtain ⟨n, e⟩ := id hl
  have hT : s.TypeIs (.ref a) "list" := hl.isList.typeIs
  have q : Ls (s.heap.update a (Obj.mapSeq (·.push v))) a (vs ++ [v]) := by
    have e2 : vs.toArray.push v = (vs ++ [v]).toArray := by simp
    unfold Ls
    rw [← e2]
    exact ⟨_, Heap.get?_update_self _ e rfl⟩
  refine wpAny_call_entry slot_list_append hT entry_list_append ?_ (args_list_append _ _)
  show wpAny _ _ (updateSeq a (·.push v) >>= fun _ => ret .none) _ _ s
  exact wpAny_bind (wpAny_updateSeq e rfl (wpAny_pure ⟨.none, rfl, h _ q (Heap.SameBut.update ..)⟩) (by rw [sizeLine]; simp; (first | lia | omega)) (by rw [sizeLine]; simp; (first | lia | omega)))
theorem comp_loop {I a : Addr} {fp wr : List Addr} {n : Nat} {P : Nat → Value → Prop} {St : Nat → Heap → Prop} {elt target iter : Expr} {ifs : List Expr} {scope : Scope} {pos : Pos} (W : Walks pr w A I fp wr n P St)
    (U : Nat → List Value → Shared → Prop) (hn : n ≤ 1000) (ha : a ∉ fp)
    (stab : ∀ i vs s h' tk, U i vs s → (∀ b o, b ∉ a :: wr → s.heap.get? b = some o → h'.get? b = some o) → U i vs { s with heap := h', toks := tk })
    (turn : ∀ i v vs s, i < n → P i v → St (i + 1) s.heap → U i vs s → Ls s.heap a vs → wpN w A (letOwnedTupleGo target (.ref I) v) (fun _ s1 => wpN w A (assign target env v) (fun _ s2 => wpN w A (tests ifs env) (fun ok s3 =>
      if ok = true then wpN w A (eval elt env) (fun r s4 => U (i + 1) (vs ++ [r]) s4 ∧ ∀ b ∈ a :: fp, ∀ o, s.heap.get? b = some o → s4.heap.get? b = some o) s3
      else U (i + 1) vs s3 ∧ ∀ b ∈ a :: fp, ∀ o, s.heap.get? b = some o → s3.heap.get? b = some o) s2) s1) s)
    (hst : St 0 s.heap) (hu : U 0 [] s) (hl : Ls s.heap a []) :
    codeAny (model pr w) A (.compLoop (.ListComp elt [⟨target, iter, ifs, 0⟩] scope pos) 0 (.ref I) (.ref a) env) (fun r s' => r = .ok .next ∧ ∃ vs, U n vs s' ∧ Ls s'.heap a vs) s := by
  have hne : ∀ b ∈ fp, b ≠ a := fun b hb e => ha (e ▸ hb)
  refine codeAny_loop rfl (fun k s' => ∃ i vs, i ≤ n ∧ k = n - i ∧ vs.length ≤ i ∧ St i s'.heap ∧ U i vs s' ∧ Ls s'.heap a vs) ?_ n ⟨0, [], Nat.zero_le _, rfl, Nat.zero_le _, hst, hu, hl⟩
  rintro k s' ⟨i, vs, hi, rfl, hlen, hSt, hU, hL⟩
  show wpAny _ A ((compTurn (.ListComp elt [⟨target, iter, ifs, 0⟩] scope pos) 0 (.ref I) (.ref a) env).onRaise (fun x => do noteFrame x env; theTreesLotGoes x)) _ _ s'
  refine wpAny_noted ?_
  rw [compTurn_list]
  refine wpAny_bind (wpAny_standAt (wpAny_bind ?_))
  by_cases hlt : i < n
  · refine W.item i s' _ _ hlt hSt fun v h' tk hv hSt' hk => ?_
    have hk' : ∀ b o, b ∉ a :: wr → s'.heap.get? b = some o → h'.get? b = some o := fun b o hb e => hk b o (fun hm => hb (List.mem_cons_of_mem _ hm)) e
    have haw : a ∉ wr := fun hm => ha (W.sub _ hm)
    have hL' : Ls h' a vs := hL.keeps fun o e => hk a o haw e
    refine wpAny_bind (wpN.up (wpAny_mono (turn i v vs _ hlt hv hSt' (stab i vs s' h' tk hU hk') hL') (fun _ s1 h1 => wpAny_bind (wpN.up (wpAny_mono h1 (fun _ s2 h2 => wpAny_bind (wpN.up (wpAny_mono h2 (fun ok s3 h3 => ?_) fun _ _ z => z))) fun _ _ z => z))) fun _ _ z => z))
    cases ok with
    | false =>
      rw [if_neg (by decide)] at h3
      refine wpAny_pure ⟨rfl, n - (i + 1), by (first | lia | omega), i + 1, vs, hlt, rfl, by (first | lia | omega), ?_, h3.1, ?_⟩
      · exact W.frame _ _ _ hSt' fun b hb o e => h3.2 b (List.mem_cons_of_mem _ hb) o e
      · exact hL'.keeps fun o e => h3.2 a (List.mem_cons_self) o e
    | true =>
      rw [if_pos rfl] at h3
      refine wpAny_bind (wpAny_bind (wpN.up (wpAny_mono h3 (fun r s4 h4 => ?_) fun _ _ z => z)))
      have hL4 : Ls s4.heap a vs := hL'.keeps fun o e => h4.2 a (List.mem_cons_self) o e
      refine wpAny_bind (wpN.up (ls_append hL4 (by (first | lia | omega)) fun h5 hL5 sb => ?_))
      refine wpAny_pure (wpAny_pure ⟨rfl, n - (i + 1), by (first | lia | omega), i + 1, vs ++ [r], hlt, rfl, by simp; (first | lia | omega), ?_, ?_, hL5⟩)
      · exact W.frame _ _ _ hSt' fun b hb o e => sb.extBut b o (hne b hb) (h4.2 b (List.mem_cons_of_mem _ hb) o e)
      · exact stab (i + 1) (vs ++ [r]) s4 h5 s4.toks h4.1 fun b o hb e => sb.extBut b o (fun q => hb (q ▸ List.mem_cons_self)) e
  · obtain rfl : i = n := Nat.le_antisymm hi (Nat.not_lt.mp hlt)
    refine W.done s' _ _ hSt fun h' tk hk => ?_
    have haw : a ∉ wr := fun hm => ha (W.sub _ hm)
    exact wpAny_pure ⟨rfl, vs, stab _ vs s' h' tk hU (fun b o hb e => hk b o (fun hm => hb (List.mem_cons_of_mem _ hm)) e), hL.keeps fun o e => hk a o haw e⟩
/-- the frame of a comprehension -/
theorem wp_cenv {scope : Scope} {cl : List (Str × Addr)} {Q : Env → Shared → Prop}
    (h : ∀ h', (∀ b o, s.heap.get? b = some o → h'.get? b = some o) → Nl h' s.heap.objs.size [] → CellsOk h' (s.heap.objs.size + 1) (cellsFrom (s.heap.objs.size + 1) scope.names []) →
      Q { scope := scope, locals := s.heap.objs.size, globals := env.globals, cells := cellsFrom (s.heap.objs.size + 1) scope.names cl, qual := env.qual, func := none, code := env.code, frame := env.frame, builtins := env.builtins } { s with heap := h' }) :
    wpN w A (newFunctionEnv scope env.globals cl [] env.qual none .none (some env)) Q s := by
  simp only [newFunctionEnv, Option.isSome_some, if_true]
  refine wpAny_bind (wpAny_alloc ?_)
  refine wpAny_bind (wpAny_layCells _ (fun name kind cells => by cases hkc : kind == NameKind.cell <;> simp [hkc]) _ _ _ _ ?_)
  have ok := cellsFrom_ok scope.names (s.heap.push { cls := .type "dict", data := .dict #[] }) (s.heap.objs.size + 1) [] ⟨fun _ _ hm => (nomatch hm), List.Pairwise.nil⟩ (by rw [Heap.size_push]; exact Nat.le_refl _)
  rw [Heap.size_push] at ok
  rw [show ({ s with heap := s.heap.push { cls := .type "dict", data := .dict #[] } } : Shared).heap.objs.size = s.heap.objs.size + 1 from Heap.size_push ..]
  refine wpAny_pure (h _ (fun b o e => pushCells_keeps _ _ b o (Heap.get?_push_of_some _ e)) ?_ ok)
  exact ⟨fun _ => none, (Heap.Ns.new s.heap (.type "dict")).keeps (pushCells_keeps _ _), fun _ _ e => nomatch e⟩
theorem lcomp {elt target iter : Expr} {ifs : List Expr} {scope : Scope} {pos : Pos} {cl : List (Str × Addr)} {Q : Value → Shared → Prop} (hclos : closureFor scope env = Pure.pure cl) (hkind : scope.kind = .function)
    (hnames : (scope.names.all fun x => x.2 != .local || scope.names.lookup x.1 == some .local) = true) (hs : ∀ x, foldedSetIterable iter env x = Pure.pure x)
    (h : wpN w A (eval iter env) (fun x s₁ => wpN w A (pyIter x) (fun it s₂ => ∃ I fp wr n P St, it = .ref I ∧ Walks pr w A I fp wr n P St ∧ St 0 s₂.heap ∧ n ≤ 1000 ∧ (∀ b ∈ fp, b < s₂.heap.objs.size) ∧
      ∀ (a C : Nat), s₂.heap.objs.size = a → C = a + 1 → ∃ U : Nat → List Value → Shared → Prop,
        (∀ i vs s h' tk, U i vs s → (∀ b o, b ∉ a :: wr → s.heap.get? b = some o → h'.get? b = some o) → U i vs { s with heap := h', toks := tk }) ∧
        (∀ i v vs s, i < n → P i v → St (i + 1) s.heap → U i vs s → Ls s.heap a vs → wpN w A (letOwnedTupleGo target (.ref I) v) (fun _ s1 => wpN w A (assign target (cEnv scope cl C env) v) (fun _ s2 => wpN w A (tests ifs (cEnv scope cl C env)) (fun ok s3 =>
          if ok = true then wpN w A (eval elt (cEnv scope cl C env)) (fun r s4 => U (i + 1) (vs ++ [r]) s4 ∧ ∀ b ∈ a :: fp, ∀ o, s.heap.get? b = some o → s4.heap.get? b = some o) s3
          else U (i + 1) vs s3 ∧ ∀ b ∈ a :: fp, ∀ o, s.heap.get? b = some o → s3.heap.get? b = some o) s2) s1) s) ∧
        (∀ h' , (∀ b o, s₂.heap.get? b = some o → h'.get? b = some o) → Nl h' C [] → CellsOk h' (C + 1) (cellsFrom (C + 1) scope.names []) → U 0 [] { s₂ with heap := h' }) ∧
        (∀ i vs s, U i vs s → Nl s.heap C []) ∧
        (∀ vs s' h', U n vs s' → Ls h' a vs → Heap.SameBut C s'.heap h' → Q (.ref a) { s' with heap := h' })) s₁) s) :
    wpN w A (eval (.ListComp elt [⟨target, iter, ifs, 0⟩] scope pos) env) Q s := by
  rw [eval_ListComp]
  refine wpAny_comprehension_free (cl := cl) rfl hs hclos hkind (fun x hx hl => ?_) (wpAny_mono h (fun x s₁ h₁ => wpAny_mono h₁ (fun it s₂ h₂ => ?_) fun _ _ z => z) fun _ _ z => z)
  · have := List.all_eq_true.mp hnames x hx
    rw [hl] at this
    simpa using this
  obtain ⟨I, fp, wr, n, P, St, rfl, W, hSt, hn, hfp, h₂⟩ := h₂
  obtain ⟨U, stab, turn, start, ns, fin⟩ := h₂ s₂.heap.objs.size (s₂.heap.objs.size + 1) rfl rfl
  refine wpAny_newObj_type ?_ (by size_fits)
  have k1 : ∀ b o, s₂.heap.get? b = some o → (s₂.heap.push { cls := .type "list", data := .seq #[] }).get? b = some o := fun b o e => Heap.get?_push_of_some _ e
  refine wp_cenv fun h₄ hk₄ N4 ok4 => ?_
  have eS : (s₂.heap.push { cls := .type "list", data := .seq #[] }).objs.size = s₂.heap.objs.size + 1 := Heap.size_push ..
  have N4 : Nl h₄ (s₂.heap.objs.size + 1) [] := eS ▸ N4
  have ok4 : CellsOk h₄ (s₂.heap.objs.size + 1 + 1) (cellsFrom (s₂.heap.objs.size + 1 + 1) scope.names []) := eS ▸ ok4
  have k4 : ∀ b o, s₂.heap.get? b = some o → h₄.get? b = some o := fun b o e => hk₄ b o (k1 b o e)
  have hL4 : Ls h₄ s₂.heap.objs.size [] := ⟨_, hk₄ _ _ (Heap.get?_push_size _ rfl)⟩
  have hSt4 : St 0 h₄ := W.frame _ _ _ hSt fun b _ o e => k4 b o e
  have haf : s₂.heap.objs.size ∉ fp := fun hm => absurd (hfp _ hm) (Nat.lt_irrefl _)
  have loop := comp_loop (env := cEnv scope cl (s₂.heap.objs.size + 1) env) (iter := iter) (scope := scope) (pos := pos) W U hn haf stab turn (s := { s₂ with heap := h₄ }) hSt4 (start h₄ k4 N4 ok4) hL4
  have loop' : codeAny (model pr w) A (.compStart (.ListComp elt [⟨target, iter, ifs, 0⟩] scope pos) 0 (.ref I) (.ref s₂.heap.objs.size) (cEnv scope cl (s₂.heap.objs.size + 1) env)) (fun r s' => r = .ok .next ∧ ∃ vs, U n vs s' ∧ Ls s'.heap s₂.heap.objs.size vs) { s₂ with heap := h₄ } :=
    codeAny_compStart_list loop (W.self 0 _ _ _ hSt4 loop)
  have fin' : ∀ r s', (r = .ok .next ∧ ∃ vs, U n vs s' ∧ Ls s'.heap s₂.heap.objs.size vs) → compPost (model pr w) A No none Q (.ref s₂.heap.objs.size) (s₂.heap.objs.size + 1) r s' := by
    rintro r s' ⟨rfl, vs, hU, hL⟩
    obtain ⟨m, hm, _⟩ := ns _ _ _ hU
    exact ⟨m, hm, fun h' sb => fin vs s' h' hU (hL.keeps fun o e => sb.extBut _ _ (neN (by (first | lia | omega))) e) sb⟩
  have := codeAny_mono loop' fin'
  unfold cEnv at this
  rw [← eS] at this
  exact this
end
end Mine
end

/-! En -/
section
open PySem PySem.W PySem.W.X PyProof.Rows PySem.Calls
open Sem (wp)
set_option Elab.async false
set_option maxRecDepth 100000
set_option maxHeartbeats 1000000
namespace Mine
/-- the cells of a frame -/
def Cl (h : Heap) (cs : List (Addr × Option Value)) : Prop := ∀ p ∈ cs, h.IsCell p.1 p.2
section
variable {w : World} {A : Around} {s : Shared} {env : Env}
theorem D.enterC {f : Addr} {fd : FuncData} {args : List Value} {st : Stmt} {Q : Value → Shared → Prop} (binds l : List (Str × Value)) (c : Cx w s.heap) (hf : (KF w.params).lookup f = some (fnO fd)) (hb : fd.body = .stmts (fnB st))
    (hcd : codeIn (KF w.params) fd.code fd.qualname = true) (hroom : A.depth < recursionLimit) (hbind : bindArgs fd ⟨args, []⟩ = Pure.pure binds) (hclo : fd.closure = [])
    (hkind : ∀ x ∈ binds, fd.scope.names.lookup x.1 = some .local ∨ (fd.scope.names.lookup x.1 = some .cell ∧ ((cellsFrom (s.heap.objs.size + 1) fd.scope.names []).lookup x.1).isSome = true)) (hsc : (fd.scope.isCoroutine, fd.scope.isGenerator, fd.scope.kind) = (false, false, .function))
    (hl : ∀ L, l.map (fun p => bindL (callEnvC fd L f).kindOf binds (fun _ => none) p.1) = l.map (fun p => some p.2))
    (h : ∀ (L : Nat) (s1 : Shared), s.heap.objs.size = L → 135 ≤ L → Nl s1.heap L l → (∀ n c, (callEnvC fd L f).cells.lookup n = some c → s1.heap.IsCell c (bindC (callEnvC fd L f).kindOf binds (fun _ => none) n)) → Go [] s s1 → Cx w s1.heap →
      wpD w (A.deeper (callEnvC fd L f)) (execs (fnB st) (callEnvC fd L f)) (fun fl s' => Q (match fl with | .ret v => v | _ => .none) s') s1) :
    wpD w A (PySem.call (.ref f) args) Q s := by
  simp only [Prod.mk.injEq] at hsc
  obtain ⟨hco, hgen, hk⟩ := hsc
  refine D.call (D.tree rfl ?_)
  show wpD _ A.in1 (callAny (.ref f) ⟨args, []⟩) _ s
  simp only [callAny]
  refine D.bindN (wpAny_load (c.k _ _ hf) ?_)
  obtain ⟨cc, oc, vs, tq, hc, hoc, hdc, hq⟩ := codeRec_of c.k hcd
  have e0 : (fnO fd).data = .func fd := rfl
  simp only [e0, callFunction, hco, hgen, hb, hc]
  refine D.bindN (m := field (.ref cc) 1) (wpAny_field hoc hdc hq (D.bindN (wpAny_pure ?_)))
  rw [hbind, hclo]
  refine D.bindN (wpAny_pure (D.bindN (wpAny_newFunctionEnv_cells hk hkind fun env' he s' x => ?_)))
  subst he
  have keep := x.toInCall.keep
  obtain ⟨h₁, tk, rfl⟩ := x.toInCall.same
  refine D.bindN (wpAny_enterFrame (c.nolimit.keeps keep) hroom (D.pure ⟨rfl, ?_⟩))
  rw [← hc]
  have N : Nl h₁ s.heap.objs.size l := ⟨_, x.toInCall.ns, fun y v hy => (List.map_inj_left.mp (hl s.heap.objs.size)) (y, v) (mem_of_lookup hy)⟩
  refine D.func (D.mono (h s.heap.objs.size _ rfl c.size N x.cell (.of_keeps keep) ((Go.of_keeps (W := []) (s := s) (tk := tk) keep).cx (by simp) c)) fun fl s' h' => ⟨_, rfl, h'⟩)
theorem N.enterC {f : Addr} {fd : FuncData} {args : List Value} {st : Stmt} {Q : Value → Shared → Prop} (binds l : List (Str × Value)) (c : Cx w s.heap) (hf : (KF w.params).lookup f = some (fnO fd)) (hb : fd.body = .stmts (fnB st))
    (hcd : codeIn (KF w.params) fd.code fd.qualname = true) (hroom : A.depth < recursionLimit) (hbind : bindArgs fd ⟨args, []⟩ = Pure.pure binds) (hclo : fd.closure = [])
    (hkind : ∀ x ∈ binds, fd.scope.names.lookup x.1 = some .local ∨ (fd.scope.names.lookup x.1 = some .cell ∧ ((cellsFrom (s.heap.objs.size + 1) fd.scope.names []).lookup x.1).isSome = true)) (hsc : (fd.scope.isCoroutine, fd.scope.isGenerator, fd.scope.kind) = (false, false, .function))
    (hl : ∀ L, l.map (fun p => bindL (callEnvC fd L f).kindOf binds (fun _ => none) p.1) = l.map (fun p => some p.2))
    (h : ∀ (L : Nat) (s1 : Shared), s.heap.objs.size = L → 135 ≤ L → Nl s1.heap L l → (∀ n c, (callEnvC fd L f).cells.lookup n = some c → s1.heap.IsCell c (bindC (callEnvC fd L f).kindOf binds (fun _ => none) n)) → Go [] s s1 → Cx w s1.heap →
      wpN w (A.deeper (callEnvC fd L f)) (execs (fnB st) (callEnvC fd L f)) (fun fl s' => Q (match fl with | .ret v => v | _ => .none) s') s1) :
    wpN w A (PySem.call (.ref f) args) Q s := by
  simp only [Prod.mk.injEq] at hsc
  refine wpAny_call (codeAny_call_cells hroom (c.k _ _ hf) rfl c.nolimit (codeRec_of c.k hcd) hb hbind hclo hkind (fun s' x => ?_) hsc.1 hsc.2.1 hsc.2.2)
  have keep := x.toInCall.keep
  obtain ⟨h₁, tk, rfl⟩ := x.toInCall.same
  have N : Nl h₁ s.heap.objs.size l := ⟨_, x.toInCall.ns, fun y v hy => (List.map_inj_left.mp (hl s.heap.objs.size)) (y, v) (mem_of_lookup hy)⟩
  exact wpN.up (h s.heap.objs.size _ rfl c.size N x.cell (.of_keeps keep) ((Go.of_keeps (W := []) (s := s) (tk := tk) keep).cx (by simp) c))
end
end Mine
end

/-! Li -/
section
open PySem PySem.W PySem.W.X PyProof.Rows PySem.Calls
open Sem (wp)
set_option Elab.async false
set_option maxRecDepth 100000
set_option maxHeartbeats 1000000
namespace Mine
def iv : Value → Option Int
  | .int i _ => some i
  | _ => none
theorem iv_some {v : Value} {i : Int} (h : iv v = some i) : ∃ t, v = .int i t := by
  cases v <;> simp only [iv] at h <;> cases h
  exact ⟨_, rfl⟩
def Ints (vs : List Value) (ws : List Int) : Prop := vs.map iv = ws.map some
theorem Ints.len {vs : List Value} {ws : List Int} (h : Ints vs ws) : vs.length = ws.length := by
  have := congrArg List.length h
  simpa using this
theorem Ints.at {vs : List Value} {ws : List Int} (h : Ints vs ws) {i : Nat} {v : Value} (e : vs[i]? = some v) : ∃ t, v = .int (ws.getD i 0) t := by
  have h1 := congrArg (·[i]?) h
  simp only [List.getElem?_map, e, Option.map_some] at h1
  cases q : ws[i]? with
  | none => rw [q] at h1; cases h1
  | some k =>
    rw [q, Option.map_some] at h1
    obtain ⟨t, rfl⟩ := iv_some (Option.some.inj h1)
    exact ⟨t, by rw [List.getD_eq_getElem?_getD, q]; rfl⟩
theorem Ints.snoc {vs : List Value} {ws : List Int} {i : Int} {t : Tok} (h : Ints vs ws) : Ints (vs ++ [.int i t]) (ws ++ [i]) := by
  unfold Ints at *
  rw [List.map_append, List.map_append, h]; rfl
theorem Ints.drop {vs : List Value} {ws : List Int} (h : Ints vs ws) (k : Nat) : Ints (vs.drop k) (ws.drop k) := by
  unfold Ints at *
  rw [List.map_drop, h, List.map_drop]
theorem Ints.take {vs : List Value} {ws : List Int} (h : Ints vs ws) (k : Nat) : Ints (vs.take k) (ws.take k) := by
  unfold Ints at *
  rw [List.map_take, h, List.map_take]
theorem Ints.reverse {vs : List Value} {ws : List Int} (h : Ints vs ws) : Ints vs.reverse ws.reverse := by
  unfold Ints at *
  rw [List.map_reverse, h, List.map_reverse]
theorem Ints.append {vs us : List Value} {ws xs : List Int} (h : Ints vs ws) (g : Ints us xs) : Ints (vs ++ us) (ws ++ xs) := by
  unfold Ints at *
  rw [List.map_append, List.map_append, h, g]
theorem preSum_take (ws : List Int) : ∀ k, k ≤ ws.length → preSum (fun i => ws.getD i 0) k = (ws.take k).sum
  | 0, _ => by simp [preSum]
  | k + 1, h => by
    rw [preSum, preSum_take ws k (by (first | lia | omega)), List.take_add_one, List.sum_append]
    have : ws[k]? = some (ws.getD k 0) := by rw [List.getD_eq_getElem?_getD, List.getElem?_eq_getElem (by (first | lia | omega))]; rfl
    rw [this]; simp
theorem sum_bd : ∀ (ws : List Int), (∀ x ∈ ws, 0 ≤ x ∧ x ≤ 100000000) → 0 ≤ ws.sum ∧ ws.sum ≤ 100000000 * (ws.length : Int)
  | [], _ => by simp
  | x :: ws, h => by
    have h1 := h x (List.mem_cons_self)
    have h2 := sum_bd ws fun y hy => h y (List.mem_cons_of_mem _ hy)
    rw [List.sum_cons, List.length_cons]
    push_cast
    (first | lia | omega)
theorem getD_bd {ws : List Int} (h : ∀ x ∈ ws, 0 ≤ x ∧ x ≤ 100000000) (i : Nat) : 0 ≤ ws.getD i 0 ∧ ws.getD i 0 ≤ 100000000 := by
  rw [List.getD_eq_getElem?_getD]
  cases q : ws[i]? with
  | none => simp
  | some x => exact h x (List.mem_of_getElem? q)
section
variable {w : World} {A : Around} {s : Shared} {a : Addr} {vs : List Value} {ws : List Int}
theorem ls_iter {Q : Value → Shared → Prop} (hl : Ls s.heap a vs) (h : Q (.ref s.heap.objs.size) { s with heap := s.heap.push (liI a) }) : wpN w A (pyIter (.ref a)) Q s := wpAny_pyIter_list hl.isList h
theorem Ls.sq {h : Heap} {a : Addr} {vs : List Value} (l : Ls h a vs) : Sq h a vs.toArray := by
  obtain ⟨n, e⟩ := l
  exact ⟨_, n, e, rfl⟩
theorem sum_ints {Q : Value → Shared → Prop} (hh : A.handled = none) (hl : Ls s.heap a vs) (hi : Ints vs ws) (hb : ∀ x ∈ ws, 0 ≤ x ∧ x ≤ 100000000) (hz : ws.length ≤ 100) (h : ∀ t s', Go [] s s' → Q (.int ws.sum t) s') : wpN w A (call (.builtin "sum") [.ref a]) Q s := by
  refine call_sum_walk (ls_iter hl ?_)
  have hlt := ltN (Classical.choose_spec hl)
  have hk : ∀ b o, s.heap.get? b = some o → (s.heap.push (liI a)).get? b = some o := fun b o e => Heap.get?_push_of_some _ e
  refine ⟨s.heap.objs.size, [s.heap.objs.size, a], [s.heap.objs.size], _, _, _, fun i => ws.getD i 0, rfl, walks_sq (A := A.in1) hh s.heap.objs.size a (neN (by (first | lia | omega))) vs.toArray, ⟨⟨_, Heap.get?_push_size _ rfl, rfl, rfl⟩, hl.sq.keeps fun o e => hk _ _ e⟩, ?_, ?_, ?_, ?_⟩
  · intro b hb'
    rw [Heap.size_push]
    simp only [List.mem_cons, List.not_mem_nil, or_false] at hb'
    rcases hb' with rfl | rfl
    · exact Nat.lt_succ_self _
    · exact Nat.lt_succ_of_lt hlt
  · intro i v hv
    exact hi.at (by simpa using hv)
  · intro j hj
    have hj : j < ws.length := by rw [← hi.len]; simpa using hj
    have h1 := getD_bd hb j
    rw [preSum_take ws (j + 1) hj]
    have h2 := sum_bd (ws.take (j + 1)) fun x hx => hb x (List.mem_of_mem_take hx)
    have h3 : (ws.take (j + 1)).length ≤ 100 := by simp; (first | lia | omega)
    unfold InLong
    dsimp only
    (first | lia | omega)
  · intro h' tk t' hk'
    have e : preSum (fun i => ws.getD i 0) vs.toArray.size = ws.sum := by
      rw [preSum_take _ _ (by simp [hi.len]), List.take_of_length_le (by simp [hi.len])]
    rw [e]
    refine h _ _ ((Go.refl [] s).new (tk := s.toks) hk |>.ext (wr := [s.heap.objs.size]) hk' (al1 (Nat.le_refl _)))
theorem min_ints {Q : Value → Shared → Prop} (hh : A.handled = none) (hl : Ls s.heap a vs) (hi : Ints vs ws) (h0 : 0 < ws.length) (h : ∀ m t s', m ∈ ws → (∀ x ∈ ws, m ≤ x) → Go [] s s' → Q (.int m t) s') : wpN w A (call (.builtin "min") [.ref a]) Q s := by
  refine call_min_walk (ls_iter hl ?_)
  have hlt := ltN (Classical.choose_spec hl)
  have hk : ∀ b o, s.heap.get? b = some o → (s.heap.push (liI a)).get? b = some o := fun b o e => Heap.get?_push_of_some _ e
  have hval : ∀ (i : Nat) (v : Value), vs.toArray[i]? = some v → ∃ t, v = Value.int (ws.getD i 0) t := fun i v hv => hi.at (by simpa using hv)
  refine ⟨s.heap.objs.size, [s.heap.objs.size, a], [s.heap.objs.size], _, _, _, _, rfl, walks_sq (A := A.in1) hh s.heap.objs.size a (neN (by (first | lia | omega))) vs.toArray, ⟨⟨_, Heap.get?_push_size _ rfl, rfl, rfl⟩, hl.sq.keeps fun o e => hk _ _ e⟩, ?_, ?_, CmpOf.ints_lt (fun i => ws.getD i 0) hval, ?_⟩
  · intro b hb'
    rw [Heap.size_push]
    simp only [List.mem_cons, List.not_mem_nil, or_false] at hb'
    rcases hb' with rfl | rfl
    · exact Nat.lt_succ_self _
    · exact Nat.lt_succ_of_lt hlt
  · simp [hi.len]; exact h0
  · intro v h' tk hv hk'
    obtain ⟨t, rfl⟩ := hval _ _ hv
    have hsz : vs.toArray.size = ws.length := by simp [hi.len]
    rw [hsz]
    obtain ⟨b1, b2⟩ := argBest_lt (fun i => ws.getD i 0) (ws.length - 1)
    refine h _ _ _ ?_ ?_ ((Go.refl [] s).new (tk := s.toks) hk |>.ext (wr := [s.heap.objs.size]) hk' (al1 (Nat.le_refl _)))
    · generalize argBest (fun i j => decide (ws.getD i 0 < ws.getD j 0)) (ws.length - 1) = j at b1
      have : j < ws.length := by (first | lia | omega)
      rw [List.getD_eq_getElem?_getD, List.getElem?_eq_getElem this]
      exact List.getElem_mem this
    · intro x hx
      obtain ⟨j, hj, rfl⟩ := List.getElem_of_mem hx
      have := b2 j (by (first | lia | omega))
      rw [show ws.getD j 0 = ws[j] by rw [List.getD_eq_getElem?_getD, List.getElem?_eq_getElem hj]; rfl] at this
      exact this
end
end Mine
end

/-! Sl -/
section
open PySem PySem.W PySem.W.X PyProof.Rows PySem.Calls
open Sem (wp)
set_option Elab.async false
set_option maxRecDepth 100000
set_option maxHeartbeats 1000000
namespace Mine
section
variable {w : World} {A : Around} {s : Shared} {a : Addr} {vs : List Value} {env : Env}
theorem pick_take {k : Nat} (hk : k ≤ vs.length) : slicePick vs.toArray none (some (k : Int)) none = (vs.take k).toArray := by
  have e : sliceBounds none (some (k : Int)) none vs.toArray.size = (((0 : Nat) : Int), (k : Int), 1) := by
    unfold sliceBounds
    have h1 : ¬ ((k : Int) < 0) := by (first | lia | omega)
    simp only [Option.getD_none, show (1 : Int) > 0 by decide, if_true, h1, if_false, List.size_toArray]
    congr 2
    (first | lia | omega)
  unfold slicePick
  rw [e]
  dsimp only
  rw [sliceRange_one, pick_run]
  simp
theorem pick_drop {k : Nat} (hk : k ≤ vs.length) : slicePick vs.toArray (some (k : Int)) none none = (vs.drop k).toArray := by
  have e : sliceBounds (some (k : Int)) none none vs.toArray.size = (((k : Nat) : Int), ((vs.length : Nat) : Int), 1) := by
    rw [List.size_toArray]; exact sl_bounds hk
  unfold slicePick
  rw [e]
  dsimp only
  rw [sliceRange_one, pick_run]
  congr 1
  apply List.take_of_length_le
  simp
theorem ls_pick {value : Expr} {lower upper : Option Expr} {p pos : Pos} {Q : Value → Shared → Prop}
    (h : wpN w A (eval value env) (fun o s₁ => wpN w A (evalPart lower env) (fun vl s₂ => wpN w A (evalPart upper env) (fun vu s₃ =>
      ∃ a vs lo hi us, o = .ref a ∧ Ls s₃.heap a vs ∧ vs.length ≤ 1000 ∧ IsPart vl lo ∧ IsPart vu hi ∧ slicePick vs.toArray lo hi none = us.toArray ∧
        ∀ s', Ls s'.heap (s₃.heap.objs.size + 1) us → (∀ b o, s₃.heap.get? b = some o → s'.heap.get? b = some o) → Go [] s₃ s' → Q (.ref (s₃.heap.objs.size + 1)) s') s₂) s₁) s)
    (ht : ∀ o r, letTemporaryGo value o r = Pure.pure ()) : wpN w A (eval (.Subscript value (.Slice lower upper none p) pos) env) Q s := by
  refine wpAny_Subscript_list_slice (wpAny_mono h (fun o s₁ h₁ => wpAny_mono h₁ (fun vl s₂ h₂ => wpAny_mono h₂ (fun vu s₃ h₃ => ?_) fun _ _ z => z) fun _ _ z => z) fun _ _ z => z) ht
  obtain ⟨a, vs, lo, hi, us, rfl, hL, hz, p1, p2, e, hq⟩ := h₃
  refine ⟨a, vs.toArray, lo, hi, rfl, hL.isList, by rw [sizeLine]; simp; (first | lia | omega), p1, p2, ?_⟩
  rw [e]
  have k : ∀ b o, s₃.heap.get? b = some o → ((s₃.heap.push { cls := .type "slice", data := .fields #[vl, vu, .none] }).push { cls := .type "list", data := .seq us.toArray }).get? b = some o := fun b o e => Heap.get?_push_of_some _ (Heap.get?_push_of_some _ e)
  exact hq _ ⟨_, Heap.get?_push_at (Heap.size_push ..).symm rfl⟩ k (.of_keeps k)
end
end Mine
end

/-! F2 -/
section
open PySem PySem.W PySem.W.X PyProof.Rows PySem.Calls
open Sem (wp)
set_option Elab.async false
set_option maxRecDepth 100000
set_option maxHeartbeats 1000000
namespace Mine
abbrev eLE (L : Addr) : Env := callEnvC fdLE L 117
theorem fmLE (L : Addr) : Fm (eLE L) := ⟨rfl, rfl, rfl⟩
def minL : List Int → Int
  | [] => 0
  | x :: xs => xs.foldl min x
def lst : Nat → List Int → Int
  | 0, _ => 0
  | n + 1, ws => if ws.length ≤ 1 then 0 else ws.sum + minL ((List.range (ws.length - 1)).map fun i => lst n (ws.take (i + 1)) + lst n (ws.drop (i + 1)))
theorem foldl_min : ∀ (xs : List Int) (x : Int), (xs.foldl min x = x ∨ xs.foldl min x ∈ xs) ∧ xs.foldl min x ≤ x ∧ ∀ y ∈ xs, xs.foldl min x ≤ y
  | [], x => ⟨.inl rfl, Int.le_refl _, fun _ h => nomatch h⟩
  | z :: xs, x => by
    obtain ⟨h1, h2, h3⟩ := foldl_min xs (min x z)
    rw [List.foldl_cons]
    refine ⟨?_, by (first | lia | omega), fun y hy => ?_⟩
    · rcases h1 with h1 | h1
      · rw [h1]
        by_cases q : x ≤ z
        · exact .inl (by (first | lia | omega))
        · exact .inr (by rw [show min x z = z by (first | lia | omega)]; exact List.mem_cons_self)
      · exact .inr (List.mem_cons_of_mem _ h1)
    · rcases List.mem_cons.mp hy with rfl | hy
      · (first | lia | omega)
      · exact h3 y hy
theorem minL_eq {l : List Int} {m : Int} (h : m ∈ l) (hm : ∀ x ∈ l, m ≤ x) : minL l = m := by
  cases l with
  | nil => cases h
  | cons x xs =>
    obtain ⟨h1, h2, h3⟩ := foldl_min xs x
    show xs.foldl min x = m
    have a1 : xs.foldl min x ≤ m := by
      rcases List.mem_cons.mp h with rfl | h
      · exact h2
      · exact h3 m h
    have a2 : m ≤ xs.foldl min x := by
      rcases h1 with h1 | h1
      · rw [h1]; exact hm x List.mem_cons_self
      · exact hm _ (List.mem_cons_of_mem _ h1)
    (first | lia | omega)
section
variable {w : World} {A : Around} {s : Shared} {env : Env} {pos : Pos} {x : Str}
theorem ldc {c : Addr} {v : Value} {Q : Value → Shared → Prop} (f : Fm env) (hv : s.heap.IsCell c (some v)) (hc : env.cells.lookup x = some c) (hl : env.kindOf x = some .cell) (hd : (x == ("__debug__" : Str)) = false) (h : Q v s) : wpN w A (eval (.Name x pos) env) Q s :=
  wpAny_Name (wpAny_loadName_cell f.kind hl hc hv h) hd
theorem fm_c {scope : Scope} {cl : List (Str × Addr)} {C : Addr} (f : Fm env) (hk : scope.kind = .function) : Fm (cEnv scope cl C env) := ⟨hk, f.glob, f.bi⟩
theorem cell_go {s s' : Shared} {c : Addr} {v : Option Value} (h : s.heap.IsCell c v) (G : Go [] s s') (hc : 135 ≤ c) : s'.heap.IsCell c v := by
  obtain ⟨o, e, d⟩ := h
  exact ⟨o, G.get e hc, d⟩
theorem Ls.go {s s' : Shared} {a : Addr} {vs : List Value} (l : Ls s.heap a vs) (G : Go [] s s') (ha : 135 ≤ a) : Ls s'.heap a vs := l.keeps fun _ e => G.get e ha
theorem len_ls {a : Addr} {vs : List Value} {Q : Value → Shared → Prop} (l : Ls s.heap a vs) (hz : vs.length ≤ 1000) (h : ∀ t tk, Q (.int vs.length t) { s with toks := tk }) : wpN w A (call (.builtin "len") [.ref a]) Q s := by
  refine call_len_list l.isList (by simp; (first | lia | omega)) ?_
  rw [List.size_toArray]
  exact h _ _
theorem kLe (P : Params) : nsIn (KF P) 3 "_law_least" = some (some (.ref 117)) := by kernel_rfl
local macro_rules | `(tactic| x_close) => `(tactic| (repeat (first | with_reducible refine wpAny_BinOp ?_ | ((with_reducible apply ldc (fmLE _)); assumption; rfl; rfl; rfl) | with_reducible refine wpAny_Constant_int ?_ | with_reducible refine add_int ?_ | with_reducible refine sub_int ?_)))
theorem least_call : ∀ (n : Nat) (A : Around) (s : Shared) (a : Addr) (vs : List Value) (ws : List Int) (Q : Value → Shared → Prop), Cx w s.heap → Rm (4 * n) A → Ls s.heap a vs → 135 ≤ a → Ints vs ws → 0 < ws.length → ws.length ≤ n → n ≤ 6 → (∀ x ∈ ws, 0 ≤ x ∧ x ≤ 100000000) →
    (∀ t s', Go [] s s' → Q (.int (lst n ws) t) s') → wpN w A (call (.ref 117) [.ref a]) Q s
  | 0, _, _, _, _, ws, _, _, _, _, _, _, h0, h1, _, _, _ => by (first | lia | omega)
  | n + 1, A, s, a, vs, ws, Q, c, r, hl, ha, hi, h0, h1, h6, hb, hQ => by
    refine N.enterC [("row", .ref a)] [] c (kLE _) (st := topS 7) rfl (by kernel_rfl) r.room (by kernel_rfl) rfl (fun x hx => ?_) (by kernel_rfl) (fun _ => rfl) fun L s0 hLd hL N0 C0 G0 c0 => ?_
    · simp only [List.mem_cons, List.not_mem_nil, or_false] at hx
      subst hx
      exact .inr ⟨by kernel_rfl, by rfl⟩
    have hc0 : s0.heap.IsCell (L + 1) (some (.ref a)) := C0 "row" (L + 1) (by rfl)
    have hl0 := hl.go G0 ha
    have hlen := hi.len
    refine seqn (wpAny_If (wpAny_isTrue_Compare1 (callB (fmLE L) c0 rfl (b_len _) rfl rfl rfl (sp1 rfl ?_))))
    x_close
    refine len_ls hl0 (by (first | lia | omega)) fun t tk => ?_
    x_close
    refine eq_int (truthy_bool ?_)
    by_cases hone : ws.length = 1
    · rw [if_pos (by rw [hlen, hone]; decide)]
      refine seqn (wpAny_Return_some ?_)
      x_close
      have e : lst (n + 1) ws = 0 := by unfold lst; rw [if_pos (by (first | lia | omega))]
      rw [e] at hQ
      exact hQ _ _ ((G0.tok _))
    · rw [if_neg (by simp; (first | lia | omega))]
      refine wpAny_execs_nil ?_
      refine seqn (wpAny_Return_some (wpAny_BinOp (callB (fmLE L) c0 rfl (b_sum _) rfl rfl rfl (sp1 rfl ?_))))
      x_close
      have r1 := r.mono (j := 4 * n + 3 + 1) (by (first | lia | omega))
      have r1 := r1.deeper (env := eLE L)
      refine sum_ints r.h hl0 hi hb (by (first | lia | omega)) fun ts s1 G1 => ?_
      have G1 : Go [] s0 s1 := ⟨G1.keep, G1.gens, G1.dr, G1.os, G1.tab⟩
      have c1 := G1.cx (by simp) c0
      have hl1 := hl0.go G1 ha
      have hc1 : s1.heap.IsCell (L + 1) (some (.ref a)) := cell_go hc0 G1 (Nat.le_succ_of_le hL)
      refine callB (fmLE L) c1 rfl (b_min _) rfl rfl rfl (sp1 rfl (lcomp (cl := [("row", L + 1)]) (by rfl) rfl (by rfl) (fun _ => rfl) ?_))
      refine callT (fmLE L) c1 rfl (b_range _) rfl rfl rfl (sp2 rfl ?_)
      x_close
      refine callB (fmLE L) c1 rfl (b_len _) rfl rfl rfl (sp1 rfl ?_)
      x_close
      refine len_ls hl1 (by (first | lia | omega)) fun t2 tk2 => ?_
      refine range2 (a := 1) (n := ws.length - 1) (by (first | lia | omega)) (by (first | lia | omega)) (by (first | lia | omega)) fun I h2 tk3 hI hIs hk2 => ?_
      have hIs : s1.heap.objs.size ≤ I := hIs
      have hIz : I < h2.objs.size := ltN hI
      refine ⟨I, [I], [I], ws.length - 1, _, _, rfl, Walks.range (A := A.deeper (callEnvC fdLE L 117)) r.h I ((1 : Nat) : Int) 1 _, hI, by (first | lia | omega), ?_, fun aa C haa hC => ?_⟩
      · intro b hb'
        obtain rfl : b = I := by simpa using hb'
        exact hIz
      have haa : h2.objs.size = aa := haa
      refine ⟨fun i us s5 => Ints us ((List.range i).map fun j => lst n (ws.take (j + 1)) + lst n (ws.drop (j + 1))) ∧ Nl s5.heap C [] ∧ Go [] s1 s5, ?_, ?_, ?_, ?_, ?_⟩
      · rintro i us s5 h' tk ⟨u1, u2, u3⟩ hk
        exact ⟨u1, u2.keeps fun o e => hk _ _ (ni2 (by (first | lia | omega))) e, u3.ext hk (by simp; (first | lia | omega))⟩
      · rintro i v us s5 hi' ⟨tv, rfl⟩ hSt ⟨u1, u2, u3⟩ hLs
        have c5 := u3.cx (by simp) c1
        have hl5 := hl1.go u3 ha
        have hc5 : s5.heap.IsCell (L + 1) (some (.ref a)) := cell_go hc1 u3 (Nat.le_succ_of_le hL)
        refine wpAny_pure (assignN (fm_c (fmLE L) rfl) u2 rfl (l' := [("cut", .int (((1 : Nat) : Int) + i * 1) tv)]) (by kernel_rfl) fun h6 N6 hs6 => ?_)
        have ei : (((1 : Nat) : Int) + i * 1) = ((i + 1 : Nat) : Int) := by push_cast; (first | lia | omega)
        rw [ei] at N6
        have hkeep : ∀ b ∈ [aa, I], ∀ o, s5.heap.get? b = some o → h6.get? b = some o := by
          intro b hb' o e
          have hs6 : Heap.SameBut C s5.heap h6 := hs6
          simp only [List.mem_cons, List.not_mem_nil, or_false] at hb'
          rcases hb' with rfl | rfl
          · exact hs6.extBut _ o (neN (by (first | lia | omega))) e
          · exact hs6.extBut _ o (neN (by (first | lia | omega))) e
        refine wpAny_pure ?_
        rw [if_pos rfl]
        refine N.cut (F := fun s6 => Nl s6.heap C [("cut", .int ((i + 1 : Nat) : Int) tv)] ∧ Go [] s1 s6 ∧ ∀ b ∈ [aa, I], ∀ o, s5.heap.get? b = some o → s6.heap.get? b = some o) ⟨N6, u3.same hs6 (by show s1.heap.objs.size ≤ C; (first | lia | omega)), hkeep⟩ ?_
        rintro s6 ⟨N6, G6, hk6⟩
        have c6 := G6.cx (by simp) c1
        have hl6 := hl1.go G6 ha
        have hc6 : s6.heap.IsCell (L + 1) (some (.ref a)) := cell_go hc1 G6 (Nat.le_succ_of_le hL)
        refine wpAny_BinOp (callF (fm_c (fmLE L) rfl) c6 rfl (kLe _) (kLE _) rfl rfl (sp1 rfl (ls_pick ?_ (fun _ _ => rfl))))
        refine ldc (fm_c (fmLE L) rfl) hc6 rfl rfl rfl ?_
        rw [evalPart_none]
        refine wpAny_pure ?_
        rw [evalPart_some]
        refine ld (fm_c (fmLE L) rfl) N6 rfl rfl rfl ?_
        refine ⟨a, vs, none, _, vs.take (i + 1), rfl, hl6, by (first | lia | omega), .none, .int _ _, pick_take (by (first | lia | omega)), fun s7 hL7 hk7 G7 => ?_⟩
        have c7 := G7.cx (by simp) c6
        refine ⟨c7, least_call n _ s7 _ _ _ _ c7 (r1.mono (by (first | lia | omega))) hL7 (Nat.le_succ_of_le c6.size) (hi.take _) (by simp; (first | lia | omega)) (by simp; (first | lia | omega)) (by (first | lia | omega)) (fun x hx => hb x (List.mem_of_mem_take hx)) fun t8 s8 G8 => ?_⟩
        have G68 := G7.trans G8
        have c8 := G68.cx (by simp) c6
        have hl8 := hl6.go G68 ha
        have hc8 : s8.heap.IsCell (L + 1) (some (.ref a)) := cell_go hc6 G68 (Nat.le_succ_of_le hL)
        have hC135 : 135 ≤ C := by have := c1.size; (first | lia | omega)
        have N8 := N6.go G68 hC135
        refine callF (fm_c (fmLE L) rfl) c8 rfl (kLe _) (kLE _) rfl rfl (sp1 rfl (ls_pick ?_ (fun _ _ => rfl)))
        refine ldc (fm_c (fmLE L) rfl) hc8 rfl rfl rfl ?_
        rw [evalPart_some]
        refine ld (fm_c (fmLE L) rfl) N8 rfl rfl rfl ?_
        rw [evalPart_none]
        refine wpAny_pure ?_
        refine ⟨a, vs, _, none, vs.drop (i + 1), rfl, hl8, by (first | lia | omega), .int _ _, .none, pick_drop (by (first | lia | omega)), fun s9 hL9 hk9 G9 => ?_⟩
        have c9 := G9.cx (by simp) c8
        refine ⟨c9, least_call n _ s9 _ _ _ _ c9 (r1.mono (by (first | lia | omega))) hL9 (Nat.le_succ_of_le c8.size) (hi.drop _) (by simp; (first | lia | omega)) (by simp; (first | lia | omega)) (by (first | lia | omega)) (fun x hx => hb x (List.mem_of_mem_drop hx)) fun t10 s10 G10 => ?_⟩
        have Gall := (G68.trans G9).trans G10
        refine add_int ⟨⟨?_, N8.go ((G9.trans G10).tok _) hC135 |>.sub rfl, (G6.trans Gall).tok _⟩, ?_⟩
        · rw [List.range_succ, List.map_append]
          exact u1.snoc
        · intro b hb' o e
          have e6 := hk6 b hb' o e
          refine Gall.get e6 ?_
          simp only [List.mem_cons, List.not_mem_nil, or_false] at hb'
          have := c1.size
          rcases hb' with rfl | rfl
          · show @LE.le Nat _ 135 _; (first | lia | omega)
          · show @LE.le Nat _ 135 _; (first | lia | omega)
      · intro h' hk' N' _
        exact ⟨rfl, N', (Go.refl [] s1).new fun b o e => hk' b o (hk2 b o e)⟩
      · exact fun i us s5 u => u.2.1
      · rintro us s' h' ⟨u1, u2, u3⟩ hLs sb
        refine min_ints r.h hLs u1 (by simp; (first | lia | omega)) fun m tm s6 hm hmin G6 => add_int ?_
        have e : lst (n + 1) ws = ws.sum + m := by
          unfold lst
          rw [if_neg (by (first | lia | omega)), minL_eq hm hmin]
        rw [e] at hQ
        refine hQ _ _ ?_
        have q1 := u3.same (tk := s'.toks) sb (by (first | lia | omega))
        exact (((G0.trans G1).trans q1).trans G6).tok _
end
end Mine
end

/-! Ge -/
section
open PySem PySem.W PySem.W.X PyProof.Rows PySem.Calls
open Sem (wp)
set_option Elab.async false
set_option maxRecDepth 100000
set_option maxHeartbeats 1000000
namespace Mine
def hdIn (K : Frag) (c P : Addr) : Bool := match K.lookup c with
  | some ⟨.type t, _, .fields vs, _⟩ => t == "code" && vs[11]? == some (.ref P) && (match vs.getD 18 .none with | .str _ _ => true | _ => false) && (match vs.getD 7 .none with | .int _ _ => true | _ => false) &&
      (match vs.getD 9 .none with | .bool _ => true | _ => false) && (match vs.getD 10 .none with | .int _ _ => true | _ => false) && c != P
  | _ => false
theorem hd_of {K : Frag} {h : Heap} {c P : Addr} (X : K.In h) (e : hdIn K c P = true) : CodeHd h c P := by
  unfold hdIn at e
  split at e
  · rename_i t od vs sl ho
    simp only [Bool.and_eq_true, beq_iff_eq, bne_iff_ne] at e
    obtain ⟨⟨⟨⟨⟨⟨e1, e2⟩, e3⟩, e4⟩, e5⟩, e6⟩, e7⟩ := e
    subst e1
    cases q1 : vs.getD 18 .none <;> rw [q1] at e3 <;> try cases e3
    cases q2 : vs.getD 7 .none <;> rw [q2] at e4 <;> try cases e4
    cases q3 : vs.getD 9 .none <;> rw [q3] at e5 <;> try cases e5
    cases q4 : vs.getD 10 .none <;> rw [q4] at e6 <;> try cases e6
    exact ⟨_, vs, _, _, _, _, _, _, _, X _ _ ho, rfl, rfl, e2, by rw [Array.getD_eq_getD_getElem?, e2]; rfl, q1, q2, q3, q4, e7⟩
  · cases e
theorem hd74 (P : Params) : hdIn (KF P) 74 70 = true := by kernel_rfl
theorem hd81 (P : Params) : hdIn (KF P) 81 77 = true := by kernel_rfl
/-- which codes may grow -/
def Gc (cd P : Addr) : Prop := (cd = 74 ∧ P = 70) ∨ (cd = 81 ∧ P = 77)
theorem Gc.hd {w : World} {h : Heap} {cd P : Addr} (g : Gc cd P) (c : Cx w h) : CodeHd h cd P := by
  rcases g with ⟨rfl, rfl⟩ | ⟨rfl, rfl⟩
  · exact hd_of c.k (hd74 _)
  · exact hd_of c.k (hd81 _)
theorem Gc.tab {h : Heap} {cd P : Addr} (g : Gc cd P) (t : Tbs h) : Tab P h := by
  rcases g with ⟨rfl, rfl⟩ | ⟨rfl, rfl⟩
  · exact t.1
  · exact t.2
theorem Gc.go {s : Shared} {h' : Heap} {tk : Nat} {cd P : Addr} (g : Gc cd P) (hx : Heap.ExtBut P s.heap h') (t' : Tab P h') : Go [] s { s with heap := h', toks := tk } := by
  refine ⟨fun a o _ h7 h8 e => hx a o (by rcases g with ⟨_, rfl⟩ | ⟨_, rfl⟩ <;> assumption) e, id, rfl, rfl, fun t => ?_⟩
  rcases g with ⟨rfl, rfl⟩ | ⟨rfl, rfl⟩
  · obtain ⟨_, ⟨q, f, z⟩⟩ := t
    exact ⟨t', ⟨q, hx _ _ (by decide) f, z⟩⟩
  · obtain ⟨⟨q, f, z⟩, _⟩ := t
    exact ⟨⟨q, hx _ _ (by decide) f, z⟩, t'⟩
section
variable {w : World} {A : Around} {s : Shared} {env : Env}
theorem gcode {cd P : Addr} {pos : Pos} {q : Str} {scope : Scope} {Q : Value → Shared → Prop} (g : Gc cd P) (c : Cx w s.heap) (tb : Tbs s.heap) (hc : env.code = .ref cd)
    (h : ∀ v s', Go [] s s' → s.heap.objs.size ≤ s'.heap.objs.size → (∀ b o, b ≠ P → s.heap.get? b = some o → s'.heap.get? b = some o) → s'.gens = s.gens → Q v s') : wpN w A (genexprCode env pos q scope) Q s := by
  obtain ⟨ps, hp, ht⟩ := g.tab tb
  have hd := g.hd c
  have ok : s.heap.IsCode cd P ps := hd.code hp ht
  cases e : codeAmong pos ps.toList with
  | some c' => exact wpAny_genexprCode_hit hc ok e (h _ _ (.refl _ _) (Nat.le_refl _) (fun _ _ _ e => e) rfl)
  | none =>
    refine wpAny_genexprCodeX hc ok (hd.tab hp) e fun c' h' tk hx hge hlt hcode _ htab _ => ?_
    refine h _ _ (g.go hx ⟨_, htab.2, ?_⟩) (Nat.le_trans hge (Nat.le_of_lt hlt)) (fun b o hb e => hx b o hb e) rfl
    obtain ⟨o, vs, file, tf, flags, tg, inF, text, tt, op, f1, f2, f3, f4, f5, f6, f7, _, _, f10, f11⟩ := hcode
    exact f10
theorem nb3 (P : Params) : nsIn (KF P) 3 "__builtins__" = some (some (.ref 1)) ∨ True := .inr trivial
end
end Mine
end

/-! Gx -/
section
open PySem PySem.W PySem.W.X PyProof.Rows PySem.Calls
open Sem (wp)
set_option Elab.async false
set_option maxRecDepth 100000
set_option maxHeartbeats 1000000
namespace Mine
/-- the pieces of an _Accumulator -/
def Tps (h : Heap) (xs : Array Value) (ps : List (Str × Str)) : Prop := xs.size = ps.length ∧ ∀ (i : Nat) p, ps[i]? = some p → ∃ v, xs[i]? = some v ∧ Tp h v p.1 p.2
structure StA (I x : Nat) (xs : Array Value) (ps : List (Str × Str)) (i : Nat) (h : Heap) : Prop where
  it : h.IsListIter I x i
  sq : Sq h x xs
  tp : ∀ (j : Nat) p, ps[j]? = some p → ∃ (t : Nat) (ta tb : Tok), xs[j]? = some (.ref t) ∧ t < I ∧ h.get? t = some (tpO p.1 p.2 ta tb)
theorem StA.frame {I x : Nat} {xs : Array Value} {ps : List (Str × Str)} {i : Nat} {h h' : Heap} (st : StA I x xs ps i h) (hx : x < I) (hk : ∀ b : Nat, b < I + 1 → ∀ o, h.get? b = some o → h'.get? b = some o) : StA I x xs ps i h' :=
  ⟨st.it.at fun o e => hk I (by (first | lia | omega)) o e, st.sq.keeps fun o e => hk x (by (first | lia | omega)) o e, fun j p hp => by
    obtain ⟨t, ta, tb, e1, e2, e3⟩ := st.tp j p hp
    exact ⟨t, ta, tb, e1, e2, hk t (by (first | lia | omega)) _ e3⟩⟩
section
variable {w : World} {A : Around} {s : Shared} {x d : Addr} {xs : Array Value} {ps : List (Str × Str)} {env : Env}
abbrev PtA (ps : List (Str × Str)) (i : Nat) (vals : Array Value) : Prop := ∃ p ta tb, ps[i]? = some p ∧ vals = #[.str p.1 ta, .str p.2 tb]
theorem walks_tp (hh : A.handled = none) (I x : Nat) (hx : x < I) (xs : Array Value) (ps : List (Str × Str)) (hs : xs.size = ps.length) :
    WalksU pr w A I (List.range (I + 1)) [I] ps.length (PtA ps) (StA I x xs ps) (fun i T h => StA I x xs ps (i + 1) h ∧ (T : Nat) < I) where
  sub := fun b hb => by
    have : b = I := by simpa using hb
    subst this
    exact List.mem_range.mpr (Nat.lt_succ_self _)
  frame := fun _ _ _ st hk => st.frame hx fun b hb o e => hk b (List.mem_range.mpr hb) o e
  item := fun i s Q E hi st hQ => by
    have hp : ps[i]? = some ps[i] := by simp [hi]
    obtain ⟨t, ta, tb, e1, e2, e3⟩ := st.tp i _ hp
    refine sq_item st.it st.sq e1 fun h' hit' hs' => ?_
    have st' : StA I x xs ps (i + 1) h' := ⟨hit', st.sq.keeps fun o e => hs'.extBut _ o (neN (by (first | lia | omega))) e, fun j p hp => by
      obtain ⟨t, ta, tb, e1, e2, e3⟩ := st.tp j p hp
      exact ⟨t, ta, tb, e1, e2, hs'.extBut _ _ (neN (by (first | lia | omega))) e3⟩⟩
    obtain ⟨t', ta', tb', e1', e2', e3'⟩ := st'.tp i _ hp
    rw [e1] at e1'
    cases e1'
    exact hQ t _ h' s.toks ⟨_, ta', tb', hp, rfl⟩ ⟨_, e3', rfl, _, rfl⟩ ⟨st', e2⟩ fun b o hb e => hs'.extBut b o (fun h => hb (by simp [h])) e
  go := fun _ _ _ _ _ s Q _ hm hQ => wpAny_letOwnedTupleGo_listiter hm.1.it (hQ s.heap hm.1 fun _ _ _ e => e)
  apart := fun j T _ hm hmem => by
    have : T = I := by simpa using hmem
    exact absurd hm.2 (by rw [this]; exact Nat.lt_irrefl _)
  done := fun s Q E st hQ => sq_end hh st.it st.sq (by simp [hs]) fun h' he' => hQ h' s.toks fun b o hb e => he' b o (fun h => hb (by simp [h])) e
  self := fun _ _ _ _ st hQ => wpAny_pyIter_listiter st.it hQ

theorem nb_ok (P : Params) : nsIn (KF P) 3 "__builtins__" = some (some (.ref 4)) := by kernel_rfl
theorem bi_for {r : Addr} {Q : Addr → Shared → Prop} (c : Cx w s.heap) (h : Q 0 s) : wpN w A (builtinsFor 3 r) Q s := by
  unfold builtinsFor
  refine wpAny_bind ((looks_nsIn c.k (nb_ok _)).here ?_)
  show wpAny _ A (if ((4 : Addr) == builtinsNs) = true then _ else _) _ _ s
  rw [if_neg (by decide)]
  obtain ⟨o, e, hc, hd, hp⟩ := c.m
  refine wpAny_bind (wpAny_load e ?_)
  rw [hp, hd]
  dsimp only
  rw [hc]
  exact wpAny_pure h
theorem gen_acc {cd P : Addr} {elt : Expr} {xa xb sf : Str} {pa pb pt sp : Pos} {kt : Nat} {scope : Scope} {pos : Pos} {Q : Value → Shared → Prop} {F : Nat → Value → Prop} {x d : Nat} {cl : List (Str × Addr)}
    (fm : Fm env) (g : Gc cd P) (hc : env.code = .ref cd) (c : Cx w s.heap) (tb : Tbs s.heap) (hh : A.handled = none) (hroom : A.depth < recursionLimit) (ac : Acc s.heap x d xs) (tp : Tps s.heap xs ps)
    (hco : scope.isCoroutine = false) (hclos : closureFor scope env = pure cl) (hcell : (scope.names.all fun y => y.2 != .cell) = true) (h0 : scope.names.lookup (".0" : Str) = some NameKind.local)
    (hxa : scope.names.lookup xa = some .local) (hxb : scope.names.lookup xb = some .local) (hab : xa ≠ xb) (hkind : scope.kind = .function)
    (hself : ∀ {Q : Value → Shared → Prop}, Q (.ref x) s → wpN w A (eval (.Name sf sp) env) Q s)
    (hs : ∀ y, genFold (.Name sf sp) env y = pure y)
    (helt : ∀ (A' : Around) (C : Nat) (code : Value) (i : Nat) (p : Str × Str) (ta tb : Tok) (s₂ : Shared), A'.handled = none → A'.depth ≤ A.depth + 1 → A'.units ≤ A.units + 8 → ps[i]? = some p →
      Nl s₂.heap C [(xa, .str p.1 ta), (xb, .str p.2 tb)] → Cx w s₂.heap → wpN w A' (eval elt (genEnv scope cl C code 0 env)) (fun y s₃ => F i y ∧ Keeps s₂ s₃) s₂)
    (fin : ∀ (a : Nat) (fp wr : List Addr) (gi : Nat) St s₅, WalksS pr w A.in4 a fp wr (GenOnlyQ gi) ps.length F St → St 0 s₅ → (∀ b ∈ fp, b < s₅.heap.objs.size) → a ∈ fp → (∀ i s, St i s → s.TypeIs (.ref a) "generator") →
      (∀ s', Moved wr (GenOnlyQ gi) s₅ s' → Go [] s s') → Q (.ref a) s₅) :
    wpN w A (eval (.GeneratorExp elt [⟨.Tuple [.Name xa pa, .Name xb pb] kt pt, .Name sf sp, [], 0⟩] scope pos) env) Q s := by
  have lx : 135 ≤ x := ac.lo.1
  obtain ⟨n, ho⟩ := id ac.ob
  have hxs : x < s.heap.objs.size := ltN ho
  refine wpAny_GeneratorExp_walksQTD hh hco hclos (fun y hy => by simpa using List.all_eq_true.mp hcell y hy) h0 hxa hxb hab hkind hroom (hself (acc_iter c ac ?_)) hs
  have k1 : ∀ b o, s.heap.get? b = some o → (s.heap.push (liI x)).get? b = some o := fun b o e => Heap.get?_push_of_some _ e
  have G1 : Go [] s { s with heap := s.heap.push (liI x) } := .of_keeps k1
  have c1 : Cx w (s.heap.push (liI x)) := G1.cx (by simp) c
  have hz1 : (s.heap.push (liI x)).objs.size = s.heap.objs.size + 1 := Heap.size_push ..
  refine ⟨c1.nolimit, gcode g c1 (G1.tab tb) hc fun code s₃ G3 hz3 hk3 hg3 => ?_⟩
  have c3 := G3.cx (by simp) c1
  rw [fm.glob]
  refine bi_for c3 ?_
  have hI3 : s.heap.objs.size < s₃.heap.objs.size := by
    have : (s.heap.push (liI x)).objs.size ≤ s₃.heap.objs.size := hz3
    (first | lia | omega)
  have hP : P = 70 ∨ P = 77 := by rcases g with ⟨_, rfl⟩ | ⟨_, rfl⟩ <;> simp
  have kP : ∀ b : Nat, 135 ≤ b → ∀ o, s.heap.get? b = some o → s₃.heap.get? b = some o := fun b hb o e => hk3 b o (by rcases hP with rfl | rfl <;> (rintro rfl; exact absurd hb (by decide))) (k1 b o e)
  have hst : StA s.heap.objs.size x xs ps 0 s₃.heap := by
    refine ⟨?_, ac.sq.keeps fun o e => kP x lx o e, fun j p hp => ?_⟩
    · have : (s.heap.push (liI x)).IsListIter s.heap.objs.size x 0 := ⟨_, Heap.get?_push_size _ rfl, rfl, rfl⟩
      obtain ⟨o, e, r⟩ := this
      refine ⟨o, hk3 _ o ?_ e, r⟩
      have := c.size
      rcases hP with rfl | rfl
      · exact neN (by (first | lia | omega))
      · exact neN (by (first | lia | omega))
    · obtain ⟨v, e1, t, ta, tb', rfl, e2, e3⟩ := tp.2 j p hp
      exact ⟨t, ta, tb', e1, ltN e3, kP t e2 _ e3⟩
  refine ⟨s.heap.objs.size, List.range (s.heap.objs.size + 1), [s.heap.objs.size], ps.length, PtA ps, StA s.heap.objs.size x xs ps, _, fun _ => true, F, rfl, fun A' hA' => walks_tp hA' _ x hxs xs ps tp.1, ?_, hst, ?_, c3.nolimit, ?_, ?_, ?_⟩
  · rintro i vals ⟨p, ta, tb, _, rfl⟩
    exact ⟨_, _, rfl⟩
  · intro b hb
    have := List.mem_range.mp hb
    show @LT.lt Nat _ b _
    (first | lia | omega)
  · have := c.size
    intro hm
    have : cStatics = s.heap.objs.size := by simpa using hm
    have : (2 : Nat) = s.heap.objs.size := this
    (first | lia | omega)
  · intro href hk
    refine ⟨fun A' E' i va vb s₂ m₂ _ _ _ _ _ _ _ _ => wpAny_pure ⟨rfl, s₂.heap, s₂.toks, rfl, fun _ _ e => e⟩, ?_⟩
    rintro A' E' i va vb s₂ m₂ h1 h2 h3 ⟨p, ta, tb', hp, e⟩ _ hns hva hvb hkp
    obtain ⟨rfl, rfl⟩ : va = .str p.1 ta ∧ vb = .str p.2 tb' := by simpa using congrArg Array.toList e
    refine wpN.up (helt A' _ code i p ta tb' s₂ h1 h2 h3 hp ⟨m₂, hns, fun y v hy => ?_⟩ (c3.of fun a o l1 _ _ e3 => ?_))
    · rw [List.lookup_cons] at hy
      by_cases q : (y == xa) = true
      · rw [q] at hy; rw [beq_iff_eq] at q; subst q; cases hy; exact hva
      · simp only [Bool.not_eq_true] at q
        rw [q] at hy
        rw [List.lookup_cons] at hy
        by_cases q : (y == xb) = true
        · rw [q] at hy; rw [beq_iff_eq] at q; subst q; cases hy; exact hvb
        · simp only [Bool.not_eq_true] at q
          rw [q] at hy; cases hy
    · have l1 : (a : Nat) < 135 := l1
      have l2 := c.size
      refine hkp a ?_ ?_ o (hk a o e3)
      · exact List.mem_range.mpr (ltN e3)
      · exact ni1 (Nat.ne_of_lt (Nat.lt_of_lt_of_le l1 l2))
  · intro a h₅ tk gs hgs ha5 hz5 hk5 W hG
    have ea : ∀ n, passing (fun _ => true) n 0 = List.range n := fun n => by unfold passing; simp
    rw [ea] at W
    simp only [List.length_range] at W
    have W' : WalksS pr w A.in4 a (a :: s₃.heap.objs.size :: List.range s₃.heap.objs.size) (s₃.heap.objs.size :: [s.heap.objs.size]) (GenOnlyQ s₃.gens.size) ps.length F
        (GenAt pr w A.in4 a s₃.gens.size s₃.heap.objs.size (List.range s₃.heap.objs.size) [s.heap.objs.size] (fun _ => true) ps.length F) := by
      refine { W with item := fun i s Q E hi st hQ => W.item i s Q E hi st fun v s' hv st' m => hQ v s' ?_ st' m }
      obtain ⟨j, hj, hF⟩ := hv
      have : j = i := by
        rw [List.getElem?_range hi] at hj
        exact (Option.some.inj hj).symm
      exact this ▸ hF
    refine fin a _ _ _ _ _ W' hG ?_ List.mem_cons_self (fun i s st => ?_) fun s' m => ?_
    · intro b hb
      show b < h₅.objs.size
      rw [hz5]
      rcases List.mem_cons.mp hb with rfl | hb
      · exact Nat.lt_succ_self _
      · rcases List.mem_cons.mp hb with rfl | hb
        · exact Nat.lt_succ_of_lt ha5
        · exact Nat.lt_succ_of_lt (Nat.lt_trans (List.mem_range.mp hb) ha5)
    · obtain ⟨o, nm, qn, e1, e2, _⟩ := st.1
      exact ⟨o, e1, e2⟩
    · have G13 := G1.trans G3
      have q1 : Go [] s { s₃ with heap := h₅, toks := tk } := G13.new hk5
      refine ⟨fun b o _ h7 h8 e => m.heap b o ?_ (q1.keep b o (by simp) h7 h8 e), fun hb => ?_, ?_, ?_, fun t => ?_⟩
      · have lb : @LT.lt Nat _ b s.heap.objs.size := ltN e
        have lb2 : @LT.lt Nat _ b s₃.heap.objs.size := Nat.lt_trans lb hI3
        exact ni2 ⟨Nat.ne_of_lt lb2, Nat.ne_of_lt lb⟩
      · have hb3 : AllBare s₃.gens := G13.gens hb
        exact GenOnlyQ.bare m.gens fun y hy => by
          rcases Array.mem_push.mp hy with hy | rfl
          · exact hb3 y hy
          · exact hgs
      · exact m.drawn.trans q1.dr
      · exact m.os.trans q1.os
      · have t5 : Tbs h₅ := q1.tab t
        have := c.size
        refine t5.keeps (fun o e => m.heap _ o (ni2 ⟨?_, ?_⟩) e) fun o e => m.heap _ o (ni2 ⟨?_, ?_⟩) e
        all_goals (first | lia | omega)
end
end Mine
end

/-! Ln -/
section
open PySem PySem.W PySem.W.X PyProof.Rows PySem.Calls
open Sem (wp)
set_option Elab.async false
set_option maxRecDepth 100000
set_option maxHeartbeats 1000000
namespace Mine
theorem f_inisz (P : Params) : findIn (KF P) (.ref 108) "_initial_size" = some none := by kernel_rfl
theorem hdict108 (P : Params) : (clsIn (KF P) 108).map (·.hasDict) = some true := by kernel_rfl
theorem entry_lga : entryFor table "list.__getattribute__" = some Builtin.«object.__getattribute__» := am_entry_list_getattribute
theorem args_lga (a b : Value) : argsOk "list.__getattribute__" ⟨[a, b], []⟩ := by unfold argsOk; kernel_rfl
theorem args_sum2 (a b : Value) : argsOk "sum" ⟨[a, b], []⟩ := by unfold argsOk; kernel_rfl
theorem f_len (P : Params) : findIn (KF P) (.ref 108) "__len__" = some (some (.ref 75)) := by kernel_rfl
theorem t_75 (P : Params) : typeIn (KF P) (.ref 75) = some (.type "function") := by kernel_rfl
section
variable {w : World} {A : Around} {s : Shared} {x d : Addr} {xs : Array Value} {ps : List (Str × Str)} {env : Env}
theorem AccD.yes {o : Obj} (D : AccD o) : ∃ k1, lookIn "_initial_size" o = some (some (.int 0 k1)) := by
  obtain ⟨hh, k0, k1, rfl⟩ := D
  refine ⟨k1, ?_⟩
  unfold lookIn
  simp [Value.isStr]
theorem acc_getattr {tk : Tok} {Q : Value → Shared → Prop} (c : Cx w s.heap) (a : Acc s.heap x d xs) (h : ∀ t, Q (.int 0 t) s) : wpN w A (call (.builtin "list.__getattribute__") [.ref x, .str "_initial_size" tk]) Q s := by
  obtain ⟨n, ho⟩ := id a.ob
  obtain ⟨od, hd, D⟩ := id a.di
  obtain ⟨k1, hl⟩ := D.yes
  refine acc_entry (n := "__getattribute__") c a (by decide +kernel) (.inl (by decide +kernel)) (by decide +kernel) entry_lga (args_lga _ _) ?_
  unfold Builtin.«object.__getattribute__»
  show wpAny _ _ (do
    let tp ← typeOf (.ref x)
    _) _ _ s
  refine wpAny_bind ((acc_type a).here ?_)
  refine wpAny_bind ?_
  unfold Builtin.ObjectAttr.find
  refine wpAny_bind ((looks_findIn c.k (f_inisz _)).here ?_)
  refine wpAny_bind (m := Builtin.ObjectAttr.getOf none) (wpAny_pure ?_)
  refine wpAny_bind (m := Builtin.ObjectAttr.dataDescriptor? none none) (wpAny_pure ?_)
  show wpAny _ _ (Builtin.ObjectAttr.ownThenClass (.ref x) "_initial_size" none none) _ _ _
  unfold Builtin.ObjectAttr.ownThenClass Builtin.ObjectAttr.inOwnDict
  refine wpAny_bind (wpAny_bind ?_)
  unfold Builtin.ObjectAttr.ownDict
  refine wpAny_bind (m := loadHead x) (wpAny_loadPart ho ?_)
  show wpAny _ _ (instanceDict x false) _ _ _
  unfold instanceDict
  refine wpAny_bind (wpAny_loadPart ho ?_)
  obtain ⟨cd, hcd, hd'⟩ : ∃ cd, clsIn (KF w.params) 108 = some cd ∧ cd.hasDict = true := by
    have := hdict108 w.params
    cases h : clsIn (KF w.params) 108 with
    | none => rw [h] at this; cases this
    | some cd => rw [h] at this; exact ⟨cd, rfl, Option.some.inj this⟩
  dsimp only
  refine wpAny_bind ((looks_clsIn c.k hcd).here ?_)
  rw [hd']
  refine wpAny_pure (a := some d) ?_
  show wpAny _ _ (nsGet d "_initial_size") _ _ _
  unfold nsGet
  refine wpAny_bind (wpAny_loadPart hd ?_)
  rw [nsLook_of hl]
  refine wpAny_pure ?_
  exact wpAny_bind (wpAny_rule (wpAny_pure (wpAny_pure ⟨_, rfl, h _⟩)))
theorem acc_attr {b : Bool} {Q : Value → Shared → Prop} (c : Cx w s.heap) (a : Acc s.heap x d xs) (h : ∀ t, Q (.int 0 t) { s with toks := s.toks + 1 }) : wpN w A (getAttr (.ref x) "_initial_size" b) Q s := by
  unfold getAttr getAttrBy
  refine wpAny_bind (wpAny_mkText ?_)
  have aT : ∀ tk, Looks (model pr w) ({ s with toks := tk } : Shared).heap (typeOf (.ref x)) (.ref 108) := fun tk => acc_type a
  refine wpAny_holding (wpAny_bind ((aT _).here (wpAny_bind ((looks_findIn (h := s.heap) c.k (f_ga _)).here (s := { s with toks := s.toks + 1 }) ?_))))
  dsimp only
  rw [if_neg (by decide)]
  unfold getAttrByItsOwn hookBefore
  refine wpAny_bind ((show Looks (model pr w) s.heap (if onTheHeap (.ref 108) then typeLookup (.ref 108) "__getattr__" else pure none) none from looks_findIn (h := s.heap) c.k (f_gattr _)).here (s := { s with toks := s.toks + 1 }) ?_)
  refine wpAny_bind (wpAny_attempt (wpAny_holding ?_))
  unfold callGetattribute boundAndCalled
  rw [if_neg (by simp [onTheHeap])]
  refine wpAny_bind (wpAny_of_eq (F.slot_list_getattribute.bind _) ?_)
  refine wpAny_mono (wpN.up (acc_getattr (s := { s with toks := s.toks + 1 }) (Q := fun v s' => ∃ t, v = .int 0 t ∧ s' = { s with toks := s.toks + 1 }) c a fun t => ⟨t, rfl, rfl⟩)) (fun v s' hv => ?_) fun _ _ z => z
  obtain ⟨t, rfl, rfl⟩ := hv
  exact wpAny_pure (h t)

/-- sum(x, 0) over what a generator gives -/
theorem sum_start {v : Value} {t0 : Tok} {Q : Value → Shared → Prop}
    (h : wpN w A.in1 (pyIter v) (fun it s₂ => ∃ I fp wr G n P St val, it = .ref I ∧ WalksS pr w A.in1 I fp wr G n P St ∧ St 0 s₂ ∧ (∀ b ∈ fp, b < s₂.heap.objs.size) ∧
      (∀ i v, P i v → ∃ t, v = .int (val i) t) ∧ (∀ j, j < n → InLong (val j) ∧ InLong (preSum val (j + 1))) ∧
      ∀ s' t', Moved wr G s₂ s' → Q (.int (preSum val n) t') s') s) :
    wpN w A (call (.builtin "sum") [v, .int 0 t0]) Q s := by
  refine call_function_tree F.kind_sum F.plain_sum F.entry_sum (args_sum2 _ _) ?_
  unfold Builtin.«sum»
  simp only [List.length_cons, List.length_nil]
  rw [if_neg (by decide)]
  refine wpAny_bind (wpAny_of_eq (show Builtin.Builtins.bindParams "sum" ["start"] 0 ⟨[.int 0 t0], []⟩ = pure [some (.int 0 t0)] from rfl) ?_)
  refine wpAny_bind (wpAny_mono h (fun it s₂ h₂ => ?_) fun _ _ e => e)
  obtain ⟨I, fp, wr, G, n, P, St, val, rfl, W, hst, hfp, hval, hfit, hQ⟩ := h₂
  refine wpAny_bind ?_
  refine wpAny_rule (wpAny_bind (wpAny_mkInt ?_))
  refine wpAny_bind (wpAny_pure ?_)
  simp only [List.forIn_cons, List.forIn_nil]
  refine wpAny_bind (wpAny_bind (wpAny_bind (wpAny_isInstance (T := "int") (b := false) (typeIs_int _ _ _) PySem.sub_int_str ?_)))
  simp only [Bool.false_eq_true, if_false]
  refine wpAny_pure (wpAny_bind (wpAny_bind (wpAny_isInstance (T := "int") (b := false) (typeIs_int _ _ _) PySem.sub_int_bytes ?_)))
  simp only [Bool.false_eq_true, if_false]
  refine wpAny_pure (wpAny_bind (wpAny_bind (wpAny_isInstance (T := "int") (b := false) (typeIs_int _ _ _) PySem.sub_int_bytearray ?_)))
  simp only [Bool.false_eq_true, if_false]
  refine wpAny_pure (wpAny_pure ?_)
  refine wpAny_bind (wpAny_newObj_type ?_)
  have hSf : s₂.heap.objs.size ∉ fp := fun hm => Nat.lt_irrefl _ (hfp _ hm)
  refine wpAny_pure ⟨plainId_quiet F.plain_sum_loop _, codeAny_sum_loopS W val hval hfit s₂.heap.objs.size hSf n 0 _ s₂.toks 0 rfl (Nat.zero_le _)
    (W.frame 0 s₂ _ _ hst (by first | exact Nat.le_refl _ | exact Nat.le_succ _ | omega) fun b _ o e => Heap.get?_push_of_some _ e) (Heap.get?_push_size _ rfl) fun s' t' hm => ?_⟩
  exact hQ s' t' (hm.drop_new (by first | exact Nat.le_refl _ | exact Nat.le_succ _ | omega))

abbrev eLN (L : Addr) : Env := callEnv fdLN L 75
theorem fmLN (L : Addr) : Fm (eLN L) := ⟨rfl, rfl, rfl⟩
def szs (ps : List (Str × Str)) : List Int := ps.map fun p => (p.1.length : Int) + p.2.length
theorem Acc.cls {x' d' : Addr} {h : Heap} {xs' : Array Value} (a : Acc h x' d' xs') : ∃ o, h.get? x' = some o ∧ o.cls = .ref 108 := by
  obtain ⟨n, ho⟩ := a.ob
  exact ⟨_, ho, rfl⟩
theorem Tps.go {s s' : Shared} (t : Tps s.heap xs ps) (G : Go [] s s') : Tps s'.heap xs ps := ⟨t.1, fun i p hp => by
  obtain ⟨v, e1, t, ta, tb, e2, e3, e4⟩ := t.2 i p hp
  exact ⟨v, e1, t, ta, tb, e2, e3, G.get e4 e3⟩⟩
theorem Tps.goX {s s' : Shared} {ys : Array Value} (t : Tps s.heap xs ps) (a : Acc s.heap x d ys) (G : Go [x] s s') : Tps s'.heap xs ps := ⟨t.1, fun i p hp => by
  obtain ⟨v, e1, t, ta, tb, e2, e3, e4⟩ := t.2 i p hp
  refine ⟨v, e1, t, ta, tb, e2, e3, G.getW e4 e3 ?_⟩
  obtain ⟨o, ho, hc⟩ := a.cls
  intro hm
  have : t = x := by simpa using hm
  subst this
  rw [ho] at e4
  cases e4
  cases hc⟩
local macro_rules | `(tactic| x_close) => `(tactic| (repeat (first | with_reducible refine wpAny_BinOp ?_ | ((with_reducible apply ld (fmLN _)); assumption; rfl; rfl; rfl) | with_reducible refine wpAny_Constant_int ?_ | with_reducible refine add_int ?_ | with_reducible refine sub_int ?_)))
theorem fm_gen {scope : Scope} {cl : List (Str × Addr)} {C : Addr} {code : Value} (f : Fm env) (hk : scope.kind = .function) : Fm (genEnv scope cl C code 0 env) := ⟨hk, f.glob, rfl⟩
theorem len_s {y : Str} {t : Tok} {Q : Value → Shared → Prop} (hz : y.length ≤ 1000000) (h : ∀ t tk, Q (.int y.length t) { s with toks := tk }) : wpN w A (call (.builtin "len") [.str y t]) Q s := len_str (by (first | lia | omega)) (h _ _)
theorem szs_bd {ps : List (Str × Str)} (hb : ∀ p ∈ ps, p.1.length ≤ 10000 ∧ p.2.length ≤ 10000) : ∀ k ∈ szs ps, 0 ≤ k ∧ k ≤ 100000000 := by
  intro k hk
  obtain ⟨p, hp, rfl⟩ := List.mem_map.mp hk
  have := hb p hp
  (first | lia | omega)
theorem len_meth {Q : Value → Shared → Prop} (c : Cx w s.heap) (tb : Tbs s.heap) (r : Rm 3 A) (ac : Acc s.heap x d xs) (tp : Tps s.heap xs ps) (hz : ps.length ≤ 100) (hb : ∀ p ∈ ps, p.1.length ≤ 10000 ∧ p.2.length ≤ 10000)
    (hQ : ∀ t s', Go [] s s' → Q (.int (szs ps).sum t) s') : wpN w A (call (.ref 75) [.ref x]) Q s := by
  refine N.enter [("self", .ref x)] [("self", .ref x)] c (kLN _) (st := metS 4) rfl (by kernel_rfl) r.room (by kernel_rfl) (by kernel_rfl) (by kernel_rfl) (by kernel_rfl) (by kernel_rfl) fun L s0 hLd hL N0 G0 c0 => ?_
  have a0 := ac.go G0
  have tp0 := tp.go G0
  have r0 := r.deeper (env := eLN L)
  refine seqn (wpAny_Return_some (callB (fmLN L) c0 rfl (b_sum _) rfl rfl rfl (sp2 rfl ?_)))
  refine gen_acc (F := fun i v => ∃ t, v = .int ((szs ps).getD i 0) t) (fmLN L) (.inl ⟨rfl, rfl⟩) rfl c0 (G0.tab tb) r0.h r0.room a0 tp0 rfl (by rfl) (by kernel_rfl) rfl rfl rfl (by decide) rfl (fun h => ld (fmLN L) N0 rfl rfl rfl h) (fun _ => rfl) ?_ ?_
  · intro A' C code i p ta tb' s₂ _ _ _ hp N2 c2
    have hp' := hb p (List.mem_of_getElem? hp)
    have e : (szs ps).getD i 0 = (p.1.length : Int) + p.2.length := by
      unfold szs
      rw [List.getD_eq_getElem?_getD, List.getElem?_map, hp]; rfl
    refine wpAny_BinOp (callB (fm_gen (fmLN L) rfl) c2 rfl (b_len _) rfl rfl rfl (sp1 rfl ?_))
    refine ld (fm_gen (fmLN L) rfl) N2 rfl rfl rfl ?_
    refine len_s (by (first | lia | omega)) fun t tk => ?_
    refine callB (fm_gen (fmLN L) rfl) c2 rfl (b_len _) rfl rfl rfl (sp1 rfl ?_)
    refine ld (fm_gen (fmLN L) rfl) N2 rfl rfl rfl ?_
    refine len_s (by (first | lia | omega)) fun t tk => ?_
    refine add_int ⟨⟨_, by rw [e]⟩, _, _, rfl, fun _ _ q => q⟩
  · intro a fp wr gi St s5 W hst hfp haf hty hG
    have G5 : Go [] s0 s5 := hG s5 ⟨fun _ _ _ e => e, .inl rfl, rfl, rfl, Nat.le_refl _⟩
    have c5 := G5.cx (by simp) c0
    have a5 := a0.go G5
    have N5 := N0.go G5 hL
    refine Attribute_Name_ (ld (fmLN L) N5 rfl rfl rfl ?_)
    refine acc_attr c5 a5 fun t0 => sum_start ?_
    have hst6 : St 0 { s5 with toks := s5.toks + 1 } := W.frame 0 s5 s5.heap (s5.toks + 1) hst (Nat.le_succ _) fun _ _ _ e => e
    refine W.in4_1.self 0 { s5 with toks := s5.toks + 1 } _ _ hst6 ⟨a, fp, wr, _, _, _, St, fun i => (szs ps).getD i 0, rfl, W.in4_1, hst6, hfp, fun i v h => h, fun j hj => ?_, fun s' t' m => ?_⟩
    · have hbd := szs_bd hb
      have hlen : (szs ps).length = ps.length := by simp [szs]
      have h1 := getD_bd hbd j
      rw [preSum_take _ (j + 1) (by (first | lia | omega))]
      have h2 := sum_bd ((szs ps).take (j + 1)) fun x hx => hbd x (List.mem_of_mem_take hx)
      have h3 : ((szs ps).take (j + 1)).length ≤ 100 := by simp; (first | lia | omega)
      unfold InLong
      dsimp only
      (first | lia | omega)
    · have hlen : (szs ps).length = ps.length := by simp [szs]
      have e : preSum (fun i => (szs ps).getD i 0) ps.length = (szs ps).sum := by
        rw [preSum_take _ _ (by (first | lia | omega)), List.take_of_length_le (by (first | lia | omega))]
      rw [e]
      refine hQ _ _ (G0.trans (hG s' ⟨m.heap, m.gens, m.drawn, m.os, Nat.le_trans (Nat.le_succ _) m.toks⟩))
/-- len(line) -/
theorem len_acc {Q : Value → Shared → Prop} (c : Cx w s.heap) (tb : Tbs s.heap) (r : Rm 4 A) (ac : Acc s.heap x d xs) (tp : Tps s.heap xs ps) (hz : ps.length ≤ 100) (hb : ∀ p ∈ ps, p.1.length ≤ 10000 ∧ p.2.length ≤ 10000)
    (hQ : ∀ t s', Go [] s s' → Q (.int (szs ps).sum t) s') : wpN w A (call (.builtin "len") [.ref x]) Q s := by
  refine Calls.call_function_entry kind_len plain_len entry_len (args_len1 _) ?_
  unfold Builtin.«len»
  refine wpAny_bind (m := oneArg "len" _) (wpAny_pure ?_)
  refine wpAny_bind ?_
  unfold callSpecial? specialOf
  refine wpAny_bind (wpAny_bind ((acc_type ac).here ((looks_findIn c.k (f_len _)).here ?_)))
  refine wpAny_holding ?_
  refine wpAny_bind ((bind_fn c.k (.ref x) (t_75 _)).here ?_)
  refine wpAny_bind (len_meth c tb r.in1 ac tp hz hb fun t s' G => wpAny_pure ?_)
  refine wpAny_bind (wpAny_holding (wpAny_pure (wpAny_bind (wpAny_letGo ?_))))
  have hbd := szs_bd hb
  have h2 := sum_bd (szs ps) hbd
  have hlen : (szs ps).length = ps.length := by simp [szs]
  show wpAny _ _ (if (szs ps).sum < 0 then _ else _) _ _ _
  rw [if_neg (by (first | lia | omega))]
  show wpAny _ _ (if (szs ps).sum ≥ 2 ^ 63 then _ else _) _ _ _
  rw [if_neg (by (first | lia | omega))]
  exact wpAny_bind (wpAny_mkInt (wpAny_pure ⟨_, rfl, hQ _ _ (G.tok _)⟩))
end
end Mine
end

/-! Sr -/
section
open PySem PySem.W PySem.W.X PyProof.Rows PySem.Calls
open Sem (wp)
set_option Elab.async false
set_option maxRecDepth 100000
set_option maxHeartbeats 1000000
namespace Mine
def esIn (K : Frag) : Bool := match nsIn K 3 "EMPTYSTRING" with
  | some (some (.str s _)) => s == Str.ofString ""
  | _ => false
theorem es_ok (P : Params) : esIn (KF P) = true := by kernel_rfl
theorem es_at (P : Params) : ∃ t, nsIn (KF P) 3 "EMPTYSTRING" = some (some (.str "" t)) := by
  have e := es_ok P
  unfold esIn at e
  split at e
  · rename_i s t h
    rw [beq_iff_eq] at e
    subst e
    exact ⟨t, h⟩
  · cases e
abbrev eST (L : Addr) : Env := callEnv fdST L 82
theorem fmST (L : Addr) : Fm (eST L) := ⟨rfl, rfl, rfl⟩
theorem f_str (P : Params) : findIn (KF P) (.ref 108) "__str__" = some (some (.ref 82)) := by kernel_rfl
theorem t_82 (P : Params) : typeIn (KF P) (.ref 82) = some (.type "function") := by kernel_rfl
theorem i_82 (P : Params) : isFn (KF P) (.ref 82) = true := by kernel_rfl
section
variable {w : World} {A : Around} {s : Shared} {x d : Addr} {xs : Array Value} {ps : List (Str × Str)} {env : Env}
theorem callM {id : String} {pos : Pos} {first : List Value} {args rest : List Expr} {e : Expr} {fx : Value × List Value} {Q : Value → Shared → Prop} (hfx : fx = (.builtin id, first)) (hs : starEach args env = (false, eval e env) :: starEach rest env) (hp : (backTo pos (starEach rest env)).any (·.1) = false)
    (h : wpN w A (spliced (backTo pos (starEach args env))) (fun vs s₁ => wpN w A (call (.builtin id) (first ++ vs)) Q s₁) s) : wpN w A (callWith pos fx.1 fx.2 (backTo pos (starEach args env)) []) Q s := by
  subst hfx
  rw [hs] at h ⊢
  refine callWith_builtin (first := first) (by show (false || (backTo pos (starEach rest env)).any (·.1)) = false; rw [hp]; rfl) (evalArgs_plain (wpAny_mono h (fun vs s₁ h₁ => h₁) fun _ _ z => z))
open Builtin Builtin.Str in
theorem join_tup {D : Addr} {l : List (Str × Tok)} {y : Str} {t : Tok} {Q : Value → Shared → Prop} (hl : s.heap.IsTuple D (strValues l).toArray) (hok : JoinOk y (l.map (·.1)) = true)
    (hq : ∀ t' k, Q (.str (Txt.join y (l.map (·.1))) t') { s with toks := k }) : wpN w A (call (.builtin "str.join") [.str y t, .ref D]) Q s := by
  refine wpAny_call (codeAny_call_builtin F.slot_str_join.plain F.entry_str_join (F.slot_str_join.check _ _ _ _ _ _ _ _ (typeIs_str _ _ _) (F.args_str_join_2 _ _) ?_))
  obtain ⟨o, ho, hc, n, hd⟩ := hl
  rw [join_tree_other]
  refine wpAny_bind (wpAny_typeOf (T := "tuple") ⟨o, ho, hc⟩ ?_)
  rw [if_pos (by decide)]
  refine wpAny_bind (wpAny_seqItems ho hd ?_)
  unfold JoinOk at hok
  rw [Bool.not_eq_true'] at hok
  show wpAny _ _ (joinTail y (strValues l)) _ _ _
  have g : Gives (joinTail y (strValues l)) (joinMade y l) := by
    have g0 := gives_joinTail y l hok
    cases l with
    | nil => exact g0
    | cons p r => cases r with
      | nil => exact g0
      | cons q r' => exact g0
  exact g pr w A (wants Q No) s (post_join l ⟨joinFit_length hok, hq⟩)
theorem joinOk_small {sep : Str} {l : List Str} (hs : sep.length = 0) (h : ∀ y ∈ l, y.length ≤ 20000) (hl : l.length ≤ 100) : JoinOk sep l = true := by
  unfold JoinOk
  rw [StrLaws.joinFits (B := 20000) h (by rw [hs]; have := Nat.mul_le_mul_right 20000 hl; (first | lia | omega))]
  rfl
theorem txt_len {sep : Str} {l : List Str} (hs : sep.length = 0) : (Txt.join sep l).length ≤ (l.map (·.length)).sum := by
  have h := StrLaws.join_length_le sep l
  have e : Txt.join sep l = Str.join sep l := StrLaws.glued_eq_join sep l
  rw [e]
  rw [hs] at h
  simpa using h
theorem len0 : (Str.ofString "").length = 0 := by decide
def strT (ps : List (Str × Str)) : Str := Txt.join "" (ps.map fun p => Txt.join "" [p.1, p.2])
theorem str_meth {Q : Value → Shared → Prop} (c : Cx w s.heap) (tb : Tbs s.heap) (r : Rm 4 A) (ac : Acc s.heap x d xs) (tp : Tps s.heap xs ps) (hz : ps.length ≤ 100) (hb : ∀ p ∈ ps, p.1.length ≤ 10000 ∧ p.2.length ≤ 10000)
    (hQ : ∀ t s', Go [] s s' → Q (.str (strT ps) t) s') : wpN w A (call (.ref 82) [.ref x]) Q s := by
  obtain ⟨te, he⟩ := es_at w.params
  refine N.enter [("self", .ref x)] [("self", .ref x)] c (kST _) (st := metS 5) rfl (by kernel_rfl) r.room (by kernel_rfl) (by kernel_rfl) (by kernel_rfl) (by kernel_rfl) (by kernel_rfl) fun L s0 hLd hL N0 G0 c0 => ?_
  have a0 := ac.go G0
  have tp0 := tp.go G0
  have r0 := r.deeper (env := eST L)
  refine seqn (wpAny_Return_some (metN (by rfl) (by rfl) (ev_glob c0 (fmST L).kind rfl (fmST L).glob he ?_ rfl)))
  refine GM.join ?_
  refine callM rfl rfl rfl (sp1 rfl ?_)
  refine gen_acc (F := fun i v => ∃ p t, ps[i]? = some p ∧ v = .str (Txt.join "" [p.1, p.2]) t) (fmST L) (.inr ⟨rfl, rfl⟩) rfl c0 (G0.tab tb) r0.h r0.room a0 tp0 rfl (by rfl) (by kernel_rfl) rfl rfl rfl (by decide) rfl (fun h => ld (fmST L) N0 rfl rfl rfl h) (fun _ => rfl) ?_ ?_
  · intro A' C code i p ta tb' s₂ _ _ _ hp N2 c2
    have hp' := hb p (List.mem_of_getElem? hp)
    refine metN (by rfl) (by rfl) (ev_glob c2 (fm_gen (fmST L) rfl).kind rfl (fm_gen (fmST L) rfl).glob he ?_ rfl)
    refine GM.join ?_
    refine callM rfl rfl rfl (sp1 rfl (wpAny_Tuple (sp2 rfl ?_)))
    refine ld (fm_gen (fmST L) rfl) N2 rfl rfl rfl ?_
    refine ld (fm_gen (fmST L) rfl) N2 rfl rfl rfl ?_
    refine ⟨by show 2 ≤ sizeLine; rw [sizeLine]; decide, ?_⟩
    refine join_tup (l := [(p.1, ta), (p.2, tb')]) ⟨_, Heap.get?_push_size _ rfl, rfl, _, rfl⟩ (joinOk_small len0 (fun y hy => ?_) (by simp)) fun t' k => ?_
    · simp only [List.map_cons, List.map_nil, List.mem_cons, List.not_mem_nil, or_false] at hy
      rcases hy with rfl | rfl <;> (first | lia | omega)
    · exact ⟨⟨p, _, hp, rfl⟩, _, _, rfl, fun _ _ q => Heap.get?_push_of_some _ q⟩
  · intro a fp wr gi St s5 W hst hfp haf hty hG
    refine SC.joinGen (W.in4_2) hty hst hfp haf (fun i v ⟨p, t, _, e⟩ => ⟨_, _, e⟩) (fun s' l m hit => ?_) (by rw [sizeLine]; (first | lia | omega))
    have hl : l.map (·.1) = ps.map fun p => Txt.join "" [p.1, p.2] := by
      have hsz : l.length = ps.length := by simpa [strValues] using hit.1
      apply List.ext_getElem (by simpa using hsz)
      intro j h1 h2
      simp only [List.length_map] at h1 h2
      obtain ⟨p, t, e1, e2⟩ := hit.2 j (.str l[j].1 l[j].2) (by simp [strValues, h1])
      rw [List.getElem?_eq_getElem h2] at e1
      cases e1
      have e3 := (Value.str.inj e2).1
      simp only [List.getElem_map]
      exact e3
    rw [hl]
    refine ⟨joinOk_small len0 (fun y hy => ?_) (by simpa using hz), fun t' k => ?_⟩
    · obtain ⟨p, hp, rfl⟩ := List.mem_map.mp hy
      have h1 := hb p hp
      have h2 := txt_len (sep := "") (l := [p.1, p.2]) len0
      simp only [List.map_cons, List.map_nil, List.sum_cons, List.sum_nil] at h2
      (first | lia | omega)
    · exact hQ _ _ ((G0.trans (hG _ m)).tok _)
/-- str(tree) -/
theorem str_acc {Q : Value → Shared → Prop} (c : Cx w s.heap) (tb : Tbs s.heap) (r : Rm 6 A) (ac : Acc s.heap x d xs) (tp : Tps s.heap xs ps) (hz : ps.length ≤ 100) (hb : ∀ p ∈ ps, p.1.length ≤ 10000 ∧ p.2.length ≤ 10000)
    (hQ : ∀ t s', Go [] s s' → Q (.str (strT ps) t) s') : wpN w A (call (.type "str") [.ref x]) Q s := by
  obtain ⟨n, ho⟩ := id ac.ob
  obtain ⟨od, hd, D⟩ := id ac.di
  have I : InstAt s.heap x ⟨.ref 108, some d, .seq xs n, #[]⟩ 108 (some od) := ⟨ho, rfl, rfl, hd⟩
  have ru := r.u
  refine kso_call (by show A.units + 1 + 1 < 9900; (first | lia | omega)) c.k I (f_str _) (i_82 _) (str_meth c tb r.in1.in1 ac tp hz hb fun t s' G => hQ t s' G)
end
end Mine
end

/-! Lo -/
section
open PySem PySem.W PySem.W.X PyProof.Rows PySem.Calls
open Sem (wp)
set_option Elab.async false
set_option maxRecDepth 100000
set_option maxHeartbeats 1000000
namespace Mine
section
variable {w : World} {A : Around} {s : Shared} {env : Env}
/-- while -/
theorem N.whl {test : Expr} {body : List Stmt} {pos : Pos} {Q : Flow → Shared → Prop} (I : Nat → Shared → Prop)
    (turn : ∀ n s, I n s → wpN w A (isTrue test env (eval test env)) (fun b s₂ => if b = true then wpN w A (execs body env) (fun f s₃ => f = .next ∧ ∃ m, m < n ∧ I m s₃) s₂ else Q .next s₂) s)
    (n : Nat) (h : I n s) : wpN w A (exec (.While test body [] pos) env) Q s := by
  refine wpAny_While (codeAny_whileLoop I (fun n s hI => ?_) n h)
  refine wpN.up (wpAny_mono (turn n s hI) (fun b s₂ h₂ => ?_) fun _ _ z => z)
  cases b with
  | false =>
    rw [if_neg (by decide)] at h₂
    rw [if_neg (by decide)]
    exact wpAny_execs_nil h₂
  | true =>
    rw [if_pos rfl] at h₂
    rw [if_pos rfl]
    refine wpN.up (wpAny_mono h₂ (fun f s₃ h₃ => ?_) fun _ _ z => z)
    obtain ⟨rfl, h₃⟩ := h₃
    exact h₃
theorem D.runOwn {c : Code} {Q : Flow → Shared → Prop} (hc : codeD w A c Q s) : wpD w A (PySem.runOwn c env none) Q s := by
  unfold PySem.runOwn
  exact D.onRaise (D.run hc)
theorem D.whl {test : Expr} {body : List Stmt} {pos : Pos} {Q : Flow → Shared → Prop} (I : Nat → Shared → Prop)
    (turn : ∀ n s, I n s → wpD w A (isTrue test env (eval test env)) (fun b s₂ => if b = true then wpD w A (execs body env) (fun f s₃ => f = .next ∧ ∃ m, m < n ∧ I m s₃) s₂ else Q .next s₂) s)
    (n : Nat) (h : I n s) : wpD w A (exec (.While test body [] pos) env) Q s := by
  rw [exec_While]
  refine D.bindN (wpAny_standAt (D.runOwn (D.loop rfl rfl I (fun n s hI => ?_) n h)))
  show wpD w A ((whileTurn test body [] env).onRaise (fun x => do noteFrame x env; theTreesLotGoes x)) _ s
  refine D.onRaise ?_
  unfold whileTurn
  refine D.bind (D.mono (turn n s hI) fun b s₂ h₂ => ?_)
  cases b with
  | false =>
    rw [if_neg (by decide)] at h₂
    rw [if_neg (by decide)]
    exact D.bindN (wpAny_execs_nil (D.pure h₂))
  | true =>
    rw [if_pos rfl] at h₂
    rw [if_pos rfl]
    refine D.bind (D.mono h₂ fun f s₃ h₃ => ?_)
    obtain ⟨rfl, h₃⟩ := h₃
    exact D.pure ⟨rfl, h₃⟩
theorem D.iff {test : Expr} {body orelse : List Stmt} {pos : Pos} {Q : Flow → Shared → Prop}
    (h : wpD w A (isTrue test env (eval test env)) (fun b s₂ => if b = true then wpD w A (execs body env) Q s₂ else wpD w A (execs orelse env) Q s₂) s) : wpD w A (exec (.If test body orelse pos) env) Q s := by
  rw [exec_If]
  refine D.bindN (wpAny_standAt (D.bind (D.mono h fun b s₂ h₂ => ?_)))
  cases b <;> exact h₂
theorem D.nil {Q : Flow → Shared → Prop} (h : Q .next s) : wpD w A (execs [] env) Q s := D.of (wpAny_execs_nil h)
theorem D.exprS {e : Expr} {pos : Pos} {Q : Flow → Shared → Prop} (h : wpD w A (exec (.Expr e pos) env) Q s) : wpD w A (exec (.Expr e pos) env) Q s := h

/-- for a, b in ..: what is drawn are pairs -/
theorem forT_rule {elts : List Expr} {kt : Nat} {pt : Pos} {body : List Stmt} {Q : Flow → Shared → Prop} {I : Addr} {fp wr : List Addr} {n : Nat} {Pt : Nat → Array Value → Prop} {St : Nat → Heap → Prop} {Mid : Nat → Addr → Heap → Prop}
    (W : WalksU pr w A I fp wr n Pt St Mid) (J : Nat → Shared → Prop)
    (stab : ∀ i s h' tk, J i s → (∀ b o, b ∉ wr → s.heap.get? b = some o → h'.get? b = some o) → J i { s with heap := h', toks := tk })
    (turn : ∀ i T vals s, i < n → Pt i vals → St (i + 1) s.heap → s.heap.IsTuple T vals → J i s → wpN w A (assign (.Tuple elts kt pt) env (.ref T)) (fun _ s2 => wpN w A (execs body env) (fun f s3 => f = .next ∧ J (i + 1) s3 ∧ ∀ b ∈ fp, ∀ o, s.heap.get? b = some o → s3.heap.get? b = some o) s2) s)
    (hst : St 0 s.heap) (hj : J 0 s) (fin : ∀ s', J n s' → Q .next s') : codeAny (model pr w) A (.forLoop (.Tuple elts kt pt) (.ref I) body [] env) (fun r s' => ∃ f, r = .ok f ∧ Q f s') s := by
  refine codeAny_forLoop_any (fun k s' => ∃ i, i ≤ n ∧ k = n - i ∧ St i s'.heap ∧ J i s') ?_ n ⟨0, Nat.zero_le _, rfl, hst, hj⟩
  rintro k s' ⟨i, hi, rfl, hSt, hJ⟩
  by_cases hlt : i < n
  · refine W.item i s' _ _ hlt hSt fun T vals h' tk hv hT hmid hk => ?_
    have hJ' := stab i s' h' tk hJ hk
    refine W.go _ _ _ _ _ _ _ _ hmid fun h'' hSt' hk' => ?_
    have hJ'' := stab i _ h'' tk hJ' hk'
    have hT'' : h''.IsTuple T vals := let ⟨o, e, r⟩ := hT; ⟨o, hk' _ o (W.apart _ _ _ hmid) e, r⟩
    refine wpN.up (wpAny_mono (turn i T vals _ hlt hv hSt' hT'' hJ'') (fun _ s2 h2 => wpN.up (wpAny_mono h2 (fun f s3 h3 => ?_) fun _ _ z => z)) fun _ _ z => z)
    obtain ⟨rfl, hJ3, hfp⟩ := h3
    exact ⟨n - (i + 1), by (first | lia | omega), i + 1, hlt, rfl, W.frame _ _ _ hSt' hfp, hJ3⟩
  · obtain rfl : i = n := Nat.le_antisymm hi (Nat.not_lt.mp hlt)
    refine W.done s' _ _ hSt fun h' tk hk => ?_
    exact wpAny_execs_nil ⟨_, rfl, fin _ (stab _ _ _ _ hJ hk)⟩
theorem D.forT {elts : List Expr} {kt : Nat} {pt : Pos} {body : List Stmt} {Q : Flow → Shared → Prop} {I : Addr} {fp wr : List Addr} {n : Nat} {Pt : Nat → Array Value → Prop} {St : Nat → Heap → Prop} {Mid : Nat → Addr → Heap → Prop}
    (W : WalksU pr w A I fp wr n Pt St Mid) (J : Nat → Shared → Prop)
    (stab : ∀ i s h' tk, J i s → (∀ b o, b ∉ wr → s.heap.get? b = some o → h'.get? b = some o) → J i { s with heap := h', toks := tk })
    (turn : ∀ i T vals s, i < n → Pt i vals → St (i + 1) s.heap → s.heap.IsTuple T vals → J i s → wpN w A (PySem.assign (.Tuple elts kt pt) env (.ref T)) (fun _ s2 => wpD w A (execs body env) (fun f s3 => f = .next ∧ J (i + 1) s3 ∧ ∀ b ∈ fp, ∀ o, s.heap.get? b = some o → s3.heap.get? b = some o) s2) s)
    (hst : St 0 s.heap) (hj : J 0 s) (fin : ∀ s', J n s' → Q .next s') : codeD w A (.forLoop (.Tuple elts kt pt) (.ref I) body [] env) Q s := by
  have main : ∀ (k i : Nat) (s' : Shared), n - i = k → i ≤ n → St i s'.heap → J i s' → codeD w A (.forLoop (.Tuple elts kt pt) (.ref I) body [] env) Q s' := by
    intro k
    induction k with
    | zero =>
      intro i s' hk hi hSt hJ
      obtain rfl : i = n := by (first | lia | omega)
      refine D.tree rfl ?_
      show wpD w A ((forTurn (.Tuple elts kt pt) (.ref I) body [] env).onRaise (fun x => do noteFrame x env; theTreesLotGoes x)) _ s'
      refine D.onRaise ?_
      unfold forTurn
      refine D.bindN (wpAny_standAt (D.bind (D.onRaise (D.of (W.done s' _ _ hSt fun h' tk hk' => ?_)))))
      exact D.pure ⟨rfl, D.tree rfl (D.bind (D.onRaise (D.of (wpAny_execs_nil (D.pure (fin _ (stab _ _ _ _ hJ hk')))))))⟩
    | succ k ih =>
      intro i s' hk hi hSt hJ
      refine D.tree rfl ?_
      show wpD w A ((forTurn (.Tuple elts kt pt) (.ref I) body [] env).onRaise (fun x => do noteFrame x env; theTreesLotGoes x)) _ s'
      refine D.onRaise ?_
      unfold forTurn
      refine D.bindN (wpAny_standAt (D.bind (D.onRaise (D.of (W.item i s' _ _ (by (first | lia | omega)) hSt fun T vals h' tk hv hT hmid hk' => ?_)))))
      have hJ' := stab i s' h' tk hJ hk'
      refine D.bind (D.of (W.go _ _ _ _ _ _ _ _ hmid fun h'' hSt' hk'' => ?_))
      have hJ'' := stab i _ h'' tk hJ' hk''
      have hT'' : h''.IsTuple T vals := let ⟨o, e, r⟩ := hT; ⟨o, hk'' _ o (W.apart _ _ _ hmid) e, r⟩
      refine D.bind (D.of (wpAny_mono (turn i T vals _ (by (first | lia | omega)) hv hSt' hT'' hJ'') (fun _ s2 h2 => D.bind (D.mono h2 fun f s3 h3 => ?_)) fun _ _ z => z))
      obtain ⟨rfl, hJ3, hfp⟩ := h3
      exact D.pure ⟨rfl, ih (i + 1) s3 (by (first | lia | omega)) (by (first | lia | omega)) (W.frame _ _ _ hSt' hfp) hJ3⟩
  exact main n 0 s rfl (Nat.zero_le _) hst hj
theorem D.exec_for {target iter : Expr} {body : List Stmt} {pos : Pos} {Q : Flow → Shared → Prop}
    (h : wpN w A (eval iter env) (fun x s₁ => wpN w A (pyIter x) (fun it s₂ => codeD w A (.forLoop target it body [] env) Q s₂) s₁) s)
    (hs : ∀ x, foldedSetIterable iter env x = Pure.pure x) : wpD w A (exec (.For target iter body [] pos) env) Q s := by
  rw [arm_exec_For]
  refine D.bindN (wpAny_standAt (D.bindN (wpAny_mono h (fun x s₁ h₁ => ?_) fun _ _ z => z)))
  rw [hs]
  refine D.bindN (wpAny_pure (D.bindN (wpAny_standAt (D.bindN (wpAny_holding (wpAny_mono h₁ (fun it s₂ h₂ => ?_) fun _ _ z => z))))))
  exact D.runOwn h₂

theorem assign2 {t : Addr} {va vb : Value} {xa xb : Str} {pa pb pt : Pos} {kt : Nat} {l l' : List (Str × Value)} {Q : Unit → Shared → Prop} (l1 : List (Str × Value)) (hh : A.handled = none) (ht : s.heap.IsTuple t #[va, vb]) (f : Fm env) (N : Nl s.heap env.locals l)
    (ha : env.kindOf xa = some .local) (hb : env.kindOf xb = some .local) (e1 : l1.map (fun p => ((xa, va) :: l).lookup p.1) = l1.map (fun p => some p.2)) (e : l'.map (fun p => ((xb, vb) :: l1).lookup p.1) = l'.map (fun p => some p.2))
    (h : ∀ h' tk, Nl h' env.locals l' → (∀ b o, b ≠ env.locals → s.heap.get? b = some o → h'.get? b = some o) → Q () { s with heap := h', toks := tk }) :
    wpN w A (assign (.Tuple [.Name xa pa, .Name xb pb] kt pt) env (.ref t)) Q s := by
  refine wpAny_assign_Tuple hh ht rfl rfl fun h1 hx1 => ?_
  have k1 : ∀ b o, s.heap.get? b = some o → h1.get? b = some o := fun b o e => hx1 b o (Nat.ne_of_lt (Heap.lt_size e)) e
  show wpAny _ _ (do holding [vb] (assign (.Name xa pa) env va); do holding [] (assign (.Name xb pb) env vb); pure ()) _ _ _
  refine wpAny_bind (wpAny_holding (assignN (l' := l1) f (N.keeps fun o e => k1 _ _ e) ha e1 fun h2 N2 hs2 => ?_))
  refine wpAny_bind (wpAny_holding (assignN (l' := l') f N2 hb e fun h3 N3 hs3 => ?_))
  exact wpAny_pure (h h3 _ N3 fun b o hb e => hs3.extBut b o hb (hs2.extBut b o hb (k1 b o e)))
end
end Mine
end

/-! Tt -/
section
open PySem PySem.W PySem.W.X PyProof.Rows PySem.Calls
open Sem (wp)
set_option Elab.async false
set_option maxRecDepth 100000
set_option maxHeartbeats 1000000
namespace Mine
/-- a text by its letters -/
def S (l : List Nat) : Str := ⟨l.toArray⟩
theorem S_len (l : List Nat) : (S l).length = l.length := by simp [S, Str.length]
theorem S_app (a b : List Nat) : S a ++ S b = S (a ++ b) := by
  show Str.append (S a) (S b) = _
  simp [S, Str.append]
theorem S_inj {a b : List Nat} (h : S a = S b) : a = b := by
  have := congrArg (fun s => s.cps.toList) h
  simpa [S] using this
theorem S_nil : Str.ofString "" = S [] := by decide
theorem S_beq (a b : List Nat) : ((S a) == (S b)) = (a == b) := by
  rw [Bool.eq_iff_iff, beq_iff_eq, beq_iff_eq]
  exact ⟨S_inj, fun h => by rw [h]⟩
section
variable {w : World} {A : Around} {s : Shared} {x d : Addr} {xs : Array Value} {ps : List (Str × Str)} {env : Env}
theorem chr_s {i : Int} {t : Tok} {Q : Value → Shared → Prop} (h0 : 0 ≤ i) (h1 : i ≤ 1000) (h : ∀ t tk, Q (.str (S [i.toNat]) t) { s with toks := tk }) : wpN w A (call (.builtin "chr") [.int i t]) Q s :=
  chr_of_range h0 (by (first | lia | omega)) (h _ _)
theorem add_s {a b : List Nat} {t u : Tok} {Q : Value → Shared → Prop} (hz : a.length + b.length ≤ 1000000) (h : ∀ t tk, Q (.str (S (a ++ b)) t) { s with toks := tk }) : wpN w A (binaryOp .Add (.str (S a) t) (.str (S b) u)) Q s := by
  refine PyProof.Rows.add_str (fun t' tk => ?_) (by rw [S_len, S_len, sizeLine]; (first | lia | omega))
  rw [S_app]
  exact h t' tk
theorem foldl_rep (c : Nat) : ∀ (n : Nat) (acc : Array Nat), ((List.replicate n (#[c] : Array Nat)).foldl (· ++ ·) acc) = acc ++ (List.replicate n c).toArray
  | 0, acc => by simp
  | n + 1, acc => by
    rw [List.replicate_succ, List.foldl_cons, foldl_rep c n]
    rw [List.replicate_succ]
    apply Array.ext'
    simp
theorem mul_s {c : Nat} {n : Nat} {t u : Tok} {Q : Value → Shared → Prop} (hz : n ≤ 1000) (h : ∀ t tk, Q (.str (S (List.replicate n c)) t) { s with toks := tk }) : wpN w A (binaryOp .Mult (.str (S [c]) t) (.int n u)) Q s := by
  have e : Txt.mul (S [c]) n = S (List.replicate n c) := by
    unfold Txt.mul
    by_cases h1 : (n : Int) < 1
    · rw [if_pos h1]
      obtain rfl : n = 0 := by (first | lia | omega)
      rfl
    · rw [if_neg h1]
      by_cases h2 : n = 1
      · subst h2
        rw [if_pos (by simp)]
        rfl
      · rw [if_neg (by rw [S_len]; simp; (first | lia | omega))]
        have : (S [c]).cps = #[c] := rfl
        rw [this, show ((n : Int).toNat) = n by (first | lia | omega), foldl_rep]
        simp [S]
  refine SB.mul ⟨?_, ?_, ?_⟩ fun t' k => e ▸ h t' k
  · simp; (first | lia | omega)
  · intro h1 _
    rw [S_len]
    have : ((2 ^ 63 - 1 : Int)) / (n : Int) ≥ 1 := by
      rw [ge_iff_le, Int.le_ediv_iff_mul_le (by (first | lia | omega))]
      (first | lia | omega)
    simp only [List.length_cons, List.length_nil]
    (first | lia | omega)
  · intro h1 _
    rw [S_len]
    unfold Builtin.Str.tooLong
    simp [sizeLine]; (first | lia | omega)
theorem eq_s {a b : List Nat} {t u : Tok} {Q : Value → Shared → Prop} (h : Q (.bool (a == b)) s) : wpN w A (compareOp .Eq (.str (S a) t) (.str (S b) u)) Q s := PyProof.Rows.eq_str (by rw [S_beq]; exact h)
theorem ne_s {a b : List Nat} {t u : Tok} {Q : Value → Shared → Prop} (h : Q (.bool (a != b)) s) : wpN w A (compareOp .NotEq (.str (S a) t) (.str (S b) u)) Q s := PyProof.Rows.ne_str (by unfold bne at *; rw [S_beq]; exact h)
theorem from1_s {value : Expr} {lower : Option Expr} {p pos : Pos} {Q : Value → Shared → Prop}
    (h : wpN w A (eval value env) (fun o s₁ => wpN w A (evalPart lower env) (fun v s₂ => ∃ c l t u, o = .str (S (c :: l)) t ∧ v = .int 1 u ∧ l.length ≤ 1000 ∧ ∀ t' s', Go [] s₂ s' → (∀ b o, s₂.heap.get? b = some o → s'.heap.get? b = some o) → Q (.str (S l) t') s') s₁) s)
    (ht : ∀ o r, letTemporaryGo value o r = pure ()) : wpN w A (eval (.Subscript value (.Slice lower none none p) pos) env) Q s := by
  refine wpAny_Subscript_str_slice (wpAny_mono h (fun o s₁ h₁ => wpAny_mono h₁ (fun v s₂ h₂ => ?_) fun _ _ z => z) fun _ _ z => z) ht
  obtain ⟨c, l, t, u, rfl, rfl, hz, hQ⟩ := h₂
  rw [evalPart_none]
  refine wpAny_pure ⟨S (c :: l), t, some (1, u), none, rfl, rfl, rfl, ?_⟩
  have k1 : ∀ y o, s₂.heap.get? y = some o → (s₂.heap.push { cls := .type "slice", data := .fields #[.int 1 u, .none, .none] }).get? y = some o := fun y o e => Heap.get?_push_of_some _ e
  have e1 : slicePicked (S (c :: l)) (some (1, u)) none none = sliceRange ((1 : Nat) : Int) ((l.length + 1 : Nat) : Int) 1 := by
    unfold slicePicked Builtin.Str.strSliceIndices
    rw [S_len]
    simp only [Option.map_some, Option.map_none, Option.getD_none, List.length_cons]
    congr 1
    have : ¬ ((1 : Int) < 0) := by (first | lia | omega)
    simp only [show (1 : Int) > 0 by decide, if_true, this, if_false]
    (first | lia | omega)
  have e2 : (slicePicked (S (c :: l)) (some (1, u)) none none).length = l.length := by
    rw [e1, sliceRange_one]; simp
  have e3 : ((slicePicked (S (c :: l)) (some (1, u)) none none).filterMap ((S (c :: l)).cps[·]?)).toArray = (S l).cps := by
    rw [e1, sliceRange_one, pick_run]
    simp [S]
  unfold sliceMade
  rw [if_neg (by rw [e2, S_len]; simp), e3]
  exact ⟨by rw [show (⟨(S l).cps⟩ : Str) = S l from rfl, S_len, sizeLine]; (first | lia | omega), hQ _ _ (.of_keeps (s := s₂) k1) k1⟩
/-- v[0], v[1] of a pair of texts -/
theorem tp_at {v : Value} {a b : Str} {i : Int} {u : Tok} {Q : Value → Shared → Prop} (h : Tp s.heap v a b) (hi : i = 0 ∨ i = 1) (hQ : ∀ t, Q (.str (if i = 0 then a else b) t) s) : SubscriptOn (model pr w) A v (.int i u) Q No s := by
  obtain ⟨t, ta, tb, rfl, lt, e⟩ := h
  refine ⟨"tuple", _, F.slot_tuple_getitem.lookup, ⟨_, e, rfl⟩, ?_⟩
  rcases hi with rfl | rfl
  · exact PyProof.Rows.getItem_tuple (items := #[.str a ta, .str b tb]) ⟨_, e, rfl, _, rfl⟩ (by decide) (by decide) (j := 0) (by rfl) (by rfl) (hQ ta)
  · exact PyProof.Rows.getItem_tuple (items := #[.str a ta, .str b tb]) ⟨_, e, rfl, _, rfl⟩ (by decide) (by decide) (j := 1) (by rfl) (by rfl) (hQ tb)
theorem tup_ne {v u : Value} {a b a' b' : Str} {Q : Value → Shared → Prop} (hu : A.units < cLine) (h : Tp s.heap v a b) (h' : Tp s.heap u a' b') (hQ : Q (.bool (!(a == a' && b == b'))) s) : wpN w A (compareOp .NotEq v u) Q s := by
  obtain ⟨t, ta, tb, rfl, lt, e⟩ := h
  obtain ⟨t', ta', tb', rfl, lt', e'⟩ := h'
  refine SeqAt.RcNeAt.tuples (items := #[.str a ta, .str b tb]) (items2 := #[.str a' ta', .str b' tb']) (e := fun j => if j = 0 then a == a' else b == b') ⟨_, e, rfl, _, rfl⟩ ⟨_, e', rfl, _, rfl⟩ hu (fun j h1 h2 => ?_) pr w No Q ?_
  · rcases j with _ | _ | j
    · exact SeqAt.EqAt.str_str a ta a' ta'
    · exact SeqAt.EqAt.str_str b tb b' tb'
    · exfalso
      simp at h1
      (first | lia | omega)
  · have : ((List.range (min (#[Value.str a ta, Value.str b tb] : Array Value).size (#[Value.str a' ta', Value.str b' tb'] : Array Value).size)).all (fun j => if j = 0 then a == a' else b == b') && (#[Value.str a ta, Value.str b tb] : Array Value).size == (#[Value.str a' ta', Value.str b' tb'] : Array Value).size) = (a == a' && b == b') := by
      simp [List.range_succ]
    rw [this]
    exact hQ
end
end Mine
end

/-! Sx -/
section
open PySem PySem.W PySem.W.X PyProof.Rows PySem.Calls
open Sem (wp)
set_option Elab.async false
set_option maxRecDepth 100000
set_option maxHeartbeats 1000000
namespace Mine
/-- an iterator's kind of object -/
def Fld (h : Heap) (b : Addr) : Prop := ∃ o vs, h.get? b = some o ∧ o.data = .fields vs
def NF (o : Obj) : Prop := ∀ vs, o.data ≠ .fields vs
/-- all but iterators stand -/
def Kp (h h' : Heap) : Prop := ∀ b o, NF o → h.get? b = some o → h'.get? b = some o
theorem Kp.of {h h' : Heap} {wr : List Addr} (hf : ∀ b ∈ wr, Fld h b) (hk : ∀ b o, b ∉ wr → h.get? b = some o → h'.get? b = some o) : Kp h h' := fun b o hn e => by
  by_cases hb : b ∈ wr
  · obtain ⟨o', vs, e', d⟩ := hf b hb
    rw [e] at e'
    cases e'
    exact absurd d (hn vs)
  · exact hk b o hb e
abbrev Pc := Nat × List Nat
def pS (p : Pc) : Str × Str := (S (List.replicate p.1 32), S p.2)
def pcs (stk : List Pc) : List (Str × Str) := stk.reverse.map pS
def Stk (h : Heap) (x d : Addr) (stk : List Pc) : Prop := ∃ xs, Acc h x d xs ∧ Tps h xs (pcs stk)
theorem Acc.kp {h h' : Heap} {x d : Addr} {xs : Array Value} (a : Acc h x d xs) (hk : Kp h h') : Acc h' x d xs := by
  obtain ⟨n, ho⟩ := a.ob
  obtain ⟨od, hd, D⟩ := a.di
  refine ⟨⟨n, hk _ _ (fun vs e => nomatch e) ho⟩, ⟨od, hk _ _ ?_ hd, D⟩, a.lo⟩
  obtain ⟨_, _, _, rfl⟩ := D
  exact fun vs e => nomatch e
theorem Tps.kp {h h' : Heap} {xs : Array Value} {ps : List (Str × Str)} (t : Tps h xs ps) (hk : Kp h h') : Tps h' xs ps := ⟨t.1, fun i p hp => by
  obtain ⟨v, e1, t, ta, tb, e2, e3, e4⟩ := t.2 i p hp
  exact ⟨v, e1, t, ta, tb, e2, e3, hk _ _ (fun vs e => nomatch e) e4⟩⟩
theorem Stk.kp {h h' : Heap} {x d : Addr} {stk : List Pc} (q : Stk h x d stk) (hk : Kp h h') : Stk h' x d stk := by
  obtain ⟨xs, a, t⟩ := q
  exact ⟨xs, a.kp hk, t.kp hk⟩
theorem Stk.go {s s' : Shared} {x d : Addr} {stk : List Pc} (q : Stk s.heap x d stk) (G : Go [] s s') : Stk s'.heap x d stk := by
  obtain ⟨xs, a, t⟩ := q
  exact ⟨xs, a.go G, t.go G⟩
theorem Stk.lo {h : Heap} {x d : Addr} {stk : List Pc} (q : Stk h x d stk) : 135 ≤ x ∧ 135 ≤ d := by
  obtain ⟨xs, a, t⟩ := q
  exact a.lo
theorem Stk.xo {h : Heap} {x d : Addr} {stk : List Pc} (q : Stk h x d stk) : ∃ o vs n, h.get? x = some o ∧ o.data = .seq vs n := by
  obtain ⟨xs, a, t⟩ := q
  obtain ⟨n, ho⟩ := a.ob
  exact ⟨_, _, _, ho, rfl⟩
theorem Stk.do' {h : Heap} {x d : Addr} {stk : List Pc} (q : Stk h x d stk) : ∃ o, h.get? d = some o := by
  obtain ⟨xs, a, t⟩ := q
  obtain ⟨od, hd, D⟩ := a.di
  exact ⟨_, hd⟩
/-- a frame's dict is written -/
theorem Stk.but {h h' : Heap} {x d L : Addr} {stk : List Pc} {l : List (Str × Value)} (q : Stk h x d stk) (N : Nl h L l) (hd : d ≠ L) (hs : Heap.SameBut L h h') : Stk h' x d stk := by
  obtain ⟨xs, a, t⟩ := q
  obtain ⟨oL, es, ep, eL, dL⟩ := N.dict
  obtain ⟨n, ho⟩ := a.ob
  obtain ⟨od, hd', D⟩ := a.di
  refine ⟨xs, ⟨⟨n, hs.extBut _ _ ?_ ho⟩, ⟨od, hs.extBut _ _ hd hd', D⟩, a.lo⟩, t.1, fun i p hp => ?_⟩
  · rintro rfl
    rw [ho] at eL
    cases eL
    cases dL
  · obtain ⟨v, e1, t, ta, tb, e2, e3, e4⟩ := t.2 i p hp
    refine ⟨v, e1, t, ta, tb, e2, e3, hs.extBut _ _ ?_ e4⟩
    rintro rfl
    rw [e4] at eL
    cases eL
    cases dL
theorem Nl.kp {h h' : Heap} {L : Addr} {l : List (Str × Value)} (N : Nl h L l) (hk : Kp h h') : Nl h' L l := by
  obtain ⟨oL, es, ep, eL, dL⟩ := N.dict
  exact N.keeps fun o e => hk _ _ (fun vs q => by rw [e] at eL; cases eL; rw [dL] at q; cases q) e
theorem Ls.kp {h h' : Heap} {a : Addr} {vs : List Value} (l : Ls h a vs) (hk : Kp h h') : Ls h' a vs := by
  obtain ⟨n, e⟩ := l
  exact ⟨n, hk _ _ (fun vs q => nomatch q) e⟩
theorem Tp.kp {h h' : Heap} {v : Value} {a b : Str} (t : Tp h v a b) (hk : Kp h h') : Tp h' v a b := by
  obtain ⟨t, ta, tb, e2, e3, e4⟩ := t
  exact ⟨t, ta, tb, e2, e3, hk _ _ (fun vs q => nomatch q) e4⟩
theorem Tp.go {s s' : Shared} {v : Value} {a b : Str} (t : Tp s.heap v a b) (G : Go [] s s') : Tp s'.heap v a b := by
  obtain ⟨t, ta, tb, e2, e3, e4⟩ := t
  exact ⟨t, ta, tb, e2, e3, G.get e4 e3⟩
theorem Tp.goX {s s' : Shared} {v : Value} {a b : Str} {x d : Addr} {stk : List Pc} (t : Tp s.heap v a b) (q : Stk s.heap x d stk) (G : Go [x] s s') : Tp s'.heap v a b := by
  obtain ⟨xs, ac, _⟩ := q
  obtain ⟨t, ta, tb, e2, e3, e4⟩ := t
  refine ⟨t, ta, tb, e2, e3, G.getW e4 e3 ?_⟩
  obtain ⟨o, ho, hc⟩ := ac.cls
  intro hm
  have : t = x := by simpa using hm
  subst this
  rw [ho] at e4
  cases e4
  cases hc
theorem Tp.but {h h' : Heap} {L : Addr} {l : List (Str × Value)} {v : Value} {a b : Str} (t : Tp h v a b) (N : Nl h L l) (hs : Heap.SameBut L h h') : Tp h' v a b := by
  obtain ⟨oL, es, ep, eL, dL⟩ := N.dict
  obtain ⟨t, ta, tb, e2, e3, e4⟩ := t
  refine ⟨t, ta, tb, e2, e3, hs.extBut _ _ ?_ e4⟩
  rintro rfl
  rw [e4] at eL
  cases eL
  cases dL
theorem Nl.goX {s s' : Shared} {x d L : Addr} {stk : List Pc} {l : List (Str × Value)} (N : Nl s.heap L l) (hL : 135 ≤ L) (q : Stk s.heap x d stk) (G : Go [x] s s') : Nl s'.heap L l := by
  obtain ⟨oL, es, ep, eL, dL⟩ := N.dict
  refine N.keeps fun o e => G.getW e hL ?_
  obtain ⟨ox, vs, n, ex, dx⟩ := q.xo
  intro hm
  have : L = x := by simpa using hm
  subst this
  rw [ex] at eL
  cases eL
  rw [dx] at dL
  cases dL

def hd1 : List Pc → Str × Str
  | [] => (S [], S [])
  | q :: _ => pS q
theorem pcs_cons (q : Pc) (r : List Pc) : pcs (q :: r) = pcs r ++ [pS q] := by simp [pcs]
theorem pcs_len (stk : List Pc) : (pcs stk).length = stk.length := by simp [pcs]
theorem Tps.split {h : Heap} {ys : Array Value} {v : Value} {ps : List (Str × Str)} {p : Str × Str} (t : Tps h (ys.push v) (ps ++ [p])) : Tps h ys ps ∧ Tp h v p.1 p.2 := by
  have hs : ys.size = ps.length := by have := t.1; simp at this; (first | lia | omega)
  refine ⟨⟨hs, fun i q hq => ?_⟩, ?_⟩
  · have hi : i < ps.length := by
      obtain ⟨hi, _⟩ := List.getElem?_eq_some_iff.mp hq
      exact hi
    obtain ⟨u, e1, e2⟩ := t.2 i q (by rw [List.getElem?_append_left hi]; exact hq)
    refine ⟨u, ?_, e2⟩
    rw [Array.getElem?_push] at e1
    rw [if_neg (by (first | lia | omega))] at e1
    exact e1
  · obtain ⟨u, e1, e2⟩ := t.2 ps.length p (by simp)
    rw [Array.getElem?_push, if_pos hs.symm] at e1
    cases e1
    exact e2
theorem Tps.push {h : Heap} {ys : Array Value} {v : Value} {ps : List (Str × Str)} {p : Str × Str} (t : Tps h ys ps) (hv : Tp h v p.1 p.2) : Tps h (ys.push v) (ps ++ [p]) := by
  refine ⟨by simp [t.1], fun i q hq => ?_⟩
  by_cases hi : i < ps.length
  · rw [List.getElem?_append_left hi] at hq
    obtain ⟨u, e1, e2⟩ := t.2 i q hq
    refine ⟨u, ?_, e2⟩
    rw [Array.getElem?_push, if_neg (by have := t.1; (first | lia | omega))]
    exact e1
  · rw [List.getElem?_append_right (by (first | lia | omega))] at hq
    have hi' : i - ps.length = 0 := by
      obtain ⟨h1, _⟩ := List.getElem?_eq_some_iff.mp hq
      simp at h1
      (first | lia | omega)
    rw [hi'] at hq
    cases hq
    exact ⟨v, by rw [Array.getElem?_push, if_pos (by have := t.1; (first | lia | omega))], hv⟩
section
variable {w : World} {A : Around} {s : Shared} {x d : Addr} {stk : List Pc} {env : Env}
theorem pop_stk {Q : Value → Shared → Prop} (c : Cx w s.heap) (r : Rm 3 A) (q : Stk s.heap x d stk) (hz : stk.length ≤ 100) (hQ : ∀ v s', Tp s'.heap v (hd1 stk).1 (hd1 stk).2 → Stk s'.heap x d stk.tail → Go [x] s s' → Q v s') : wpN w A (call (.ref 68) [.ref x]) Q s := by
  obtain ⟨xs, ac, tp⟩ := q
  have hsz : xs.size = stk.length := by rw [tp.1, pcs_len]
  refine pop_call c r ac (by (first | lia | omega)) (fun h0 v s' hv G => ?_) fun ys v h1 s' a' G => ?_
  · subst h0
    obtain rfl : stk = [] := by simpa using hsz.symm
    rw [S_nil] at hv
    exact hQ v s' hv ⟨_, ac.go G, tp.go G⟩ G.up
  · subst h1
    cases stk with
    | nil => simp at hsz
    | cons p stk =>
      rw [pcs_cons] at tp
      obtain ⟨t1, t2⟩ := (tp.goX ac G).split
      exact hQ v s' t2 ⟨ys, a', t1⟩ G
theorem push_stk {Q : Value → Shared → Prop} {ta tb : Tok} {p : Pc} (c : Cx w s.heap) (r : Rm 1 A) (q : Stk s.heap x d stk) (hz : stk.length ≤ 100) (hQ : ∀ s', Stk s'.heap x d (p :: stk) → Go [x] s s' → Q .none s') :
    wpN w A (call (.ref 52) [.ref x, .str (pS p).1 ta, .str (pS p).2 tb]) Q s := by
  obtain ⟨xs, ac, tp⟩ := q
  have hsz : xs.size = stk.length := by rw [tp.1, pcs_len]
  refine push_call c r ac (by (first | lia | omega)) fun v s' hv a' G => hQ s' ⟨_, a', ?_⟩ G
  rw [pcs_cons]
  exact (tp.goX ac G).push hv
theorem pc_stk {Q : Value → Shared → Prop} (c : Cx w s.heap) (r : Rm 2 A) (q : Stk s.heap x d stk) (hQ : ∀ tk s', Go [] s s' → Q (.int stk.length tk) s') : wpN w A (call (.ref 105) [.ref x]) Q s := by
  obtain ⟨xs, ac, tp⟩ := q
  have hsz : xs.size = stk.length := by rw [tp.1, pcs_len]
  refine part_count c r ac ?_
  rw [hsz]
  exact hQ
end
end Mine
end

/-! Bx -/
section
open PySem PySem.W PySem.W.X PyProof.Rows PySem.Calls
open Sem (wp)
set_option Elab.async false
set_option maxRecDepth 100000
set_option maxHeartbeats 1000000
namespace Mine
/-- a frame with one _Accumulator: what is known on the way -/
structure Bx (w : World) (W : List Addr) (s0 st s : Shared) (L x d : Nat) (l : List (Str × Value)) (stk : List Pc) : Prop where
  n : Nl s.heap L l
  q : Stk s.heap x d stk
  g : Go [] s0 s
  t : Go W st s
  c0 : Cx w s0.heap
  l0 : s0.heap.objs.size ≤ L
  lx : L < x
  ld : L < d
  wx : x ∈ W
  wl : L ∈ W
section
variable {w : World} {W : List Addr} {s0 st s s' : Shared} {L x d : Nat} {l l' : List (Str × Value)} {stk stk' : List Pc}
theorem Bx.c (b : Bx w W s0 st s L x d l stk) : Cx w s.heap := b.g.cx (by simp) b.c0
theorem Bx.L135 (b : Bx w W s0 st s L x d l stk) : 135 ≤ L := Nat.le_trans b.c0.size b.l0
theorem Bx.x135 (b : Bx w W s0 st s L x d l stk) : 135 ≤ x := Nat.le_trans b.L135 (Nat.le_of_lt b.lx)
theorem Bx.go (b : Bx w W s0 st s L x d l stk) (G : Go [] s s') : Bx w W s0 st s' L x d l stk :=
  ⟨b.n.go G b.L135, b.q.go G, b.g.trans G, b.t.trans G.up, b.c0, b.l0, b.lx, b.ld, b.wx, b.wl⟩
theorem Bx.tok (b : Bx w W s0 st s L x d l stk) (tk : Nat) : Bx w W s0 st { s with toks := tk } L x d l stk := b.go ((Go.refl [] s).tok tk)
theorem Bx.goX (b : Bx w W s0 st s L x d l stk) (q' : Stk s'.heap x d stk') (G : Go [x] s s') : Bx w W s0 st s' L x d l stk' :=
  ⟨b.n.goX b.L135 b.q G, q', b.g.drop G (by have := b.l0; have := b.lx; intro a ha; have : a = x := by simpa using ha
                                            subst this; show @LE.le Nat _ _ _; (first | lia | omega)), b.t.trans (G.mono (by have := b.wx; simpa using this)), b.c0, b.l0, b.lx, b.ld, b.wx, b.wl⟩
theorem Bx.set (b : Bx w W s0 st s L x d l stk) {h' : Heap} {tk : Nat} (N : Nl h' L l') (hs : Heap.SameBut L s.heap h') : Bx w W s0 st { s with heap := h', toks := tk } L x d l' stk :=
  ⟨N, b.q.but b.n (Nat.ne_of_gt b.ld) hs, b.g.same hs b.l0, b.t.upd hs b.wl b.L135, b.c0, b.l0, b.lx, b.ld, b.wx, b.wl⟩
theorem Bx.sub (b : Bx w W s0 st s L x d l stk) (e : l'.map (fun p => l.lookup p.1) = l'.map (fun p => some p.2)) : Bx w W s0 st s L x d l' stk := ⟨b.n.sub e, b.q, b.g, b.t, b.c0, b.l0, b.lx, b.ld, b.wx, b.wl⟩
/-- a new turn -/
theorem Bx.turn (b : Bx w W s0 st s L x d l stk) : Bx w W s0 s s L x d l stk := ⟨b.n, b.q, b.g, .refl _ _, b.c0, b.l0, b.lx, b.ld, b.wx, b.wl⟩
/-- an iterator is moved -/
theorem Bx.kp (b : Bx w W s0 st s L x d l stk) {h' : Heap} {tk : Nat} {wr : List Addr} (hf : ∀ y ∈ wr, Fld s.heap y) (hk : ∀ y o, y ∉ wr → s.heap.get? y = some o → h'.get? y = some o) (hw : ∀ y ∈ wr, s0.heap.objs.size ≤ y) :
    Bx w W s0 { s with heap := h', toks := tk } { s with heap := h', toks := tk } L x d l stk :=
  ⟨b.n.kp (Kp.of hf hk), b.q.kp (Kp.of hf hk), b.g.ext hk hw, .refl _ _, b.c0, b.l0, b.lx, b.ld, b.wx, b.wl⟩
/-- iterators stand where only W is written -/
theorem Go.fld {h : Heap} {b : Addr} (hb : Fld h b) {x d L : Addr} {stk : List Pc} {l : List (Str × Value)} (q : Stk h x d stk) (N : Nl h L l) : b ∉ [x, L] := by
  obtain ⟨o, vs, e, dd⟩ := hb
  obtain ⟨ox, us, n, ex, dx⟩ := q.xo
  obtain ⟨oL, es, ep, eL, dL⟩ := N.dict
  intro hm
  simp only [List.mem_cons, List.not_mem_nil, or_false] at hm
  rcases hm with rfl | rfl
  · rw [e] at ex; cases ex; rw [dd] at dx; cases dx
  · rw [e] at eL; cases eL; rw [dd] at dL; cases dL
end
section
variable {w : World} {A : Around} {s : Shared} {env : Env}
theorem for_ruleF {target : Expr} {body : List Stmt} {Q : Flow → Shared → Prop} {I : Addr} {fp wr : List Addr} {n : Nat} {P : Nat → Value → Prop} {St : Nat → Heap → Prop} (W : Walks pr w A I fp wr n P St) (J : Nat → Shared → Prop)
    (hF : ∀ i h, St i h → ∀ b ∈ wr, Fld h b)
    (stab : ∀ i s h' tk, J i s → (∀ b ∈ wr, Fld s.heap b) → (∀ b o, b ∉ wr → s.heap.get? b = some o → h'.get? b = some o) → J i { s with heap := h', toks := tk })
    (turn : ∀ i v s, i < n → P i v → St (i + 1) s.heap → J i s → wpN w A (letOwnedTupleGo target (.ref I) v) (fun _ s1 => wpN w A (assign target env v) (fun _ s2 => wpN w A (execs body env) (fun f s3 => f = .next ∧ J (i + 1) s3 ∧ ∀ b ∈ fp, ∀ o, s.heap.get? b = some o → s3.heap.get? b = some o) s2) s1) s)
    (hst : St 0 s.heap) (hj : J 0 s) (fin : ∀ s', J n s' → Q .next s') : codeAny (model pr w) A (.forLoop target (.ref I) body [] env) (fun r s' => ∃ f, r = .ok f ∧ Q f s') s := by
  refine codeAny_forLoop_any (fun k s' => ∃ i, i ≤ n ∧ k = n - i ∧ St i s'.heap ∧ J i s') ?_ n ⟨0, Nat.zero_le _, rfl, hst, hj⟩
  rintro k s' ⟨i, hi, rfl, hSt, hJ⟩
  by_cases hlt : i < n
  · refine W.item i s' _ _ hlt hSt fun v h' tk hv hSt' hk => ?_
    have hJ' := stab i s' h' tk hJ (hF _ _ hSt) hk
    refine wpN.up (wpAny_mono (turn i v _ hlt hv hSt' hJ') (fun _ s1 h1 => wpN.up (wpAny_mono h1 (fun _ s2 h2 => wpN.up (wpAny_mono h2 (fun f s3 h3 => ?_) fun _ _ z => z)) fun _ _ z => z)) fun _ _ z => z)
    obtain ⟨rfl, hJ3, hfp⟩ := h3
    exact ⟨n - (i + 1), by (first | lia | omega), i + 1, hlt, rfl, W.frame _ _ _ hSt' hfp, hJ3⟩
  · obtain rfl : i = n := Nat.le_antisymm hi (Nat.not_lt.mp hlt)
    refine W.done s' _ _ hSt fun h' tk hk => ?_
    exact wpAny_execs_nil ⟨_, rfl, fin _ (stab _ _ _ _ hJ (hF _ _ hSt) hk)⟩
theorem forT_ruleF {elts : List Expr} {kt : Nat} {pt : Pos} {body : List Stmt} {Q : Flow → Shared → Prop} {I : Addr} {fp wr : List Addr} {n : Nat} {Pt : Nat → Array Value → Prop} {St : Nat → Heap → Prop} {Mid : Nat → Addr → Heap → Prop}
    (W : WalksU pr w A I fp wr n Pt St Mid) (J : Nat → Shared → Prop) (hF : ∀ i h, St i h → ∀ b ∈ wr, Fld h b) (hM : ∀ i T h, Mid i T h → ∀ b ∈ wr, Fld h b)
    (stab : ∀ i s h' tk, J i s → (∀ b ∈ wr, Fld s.heap b) → (∀ b o, b ∉ wr → s.heap.get? b = some o → h'.get? b = some o) → J i { s with heap := h', toks := tk })
    (turn : ∀ i T vals s, i < n → Pt i vals → St (i + 1) s.heap → s.heap.IsTuple T vals → J i s → wpN w A (assign (.Tuple elts kt pt) env (.ref T)) (fun _ s2 => wpN w A (execs body env) (fun f s3 => f = .next ∧ J (i + 1) s3 ∧ ∀ b ∈ fp, ∀ o, s.heap.get? b = some o → s3.heap.get? b = some o) s2) s)
    (hst : St 0 s.heap) (hj : J 0 s) (fin : ∀ s', J n s' → Q .next s') : codeAny (model pr w) A (.forLoop (.Tuple elts kt pt) (.ref I) body [] env) (fun r s' => ∃ f, r = .ok f ∧ Q f s') s := by
  refine codeAny_forLoop_any (fun k s' => ∃ i, i ≤ n ∧ k = n - i ∧ St i s'.heap ∧ J i s') ?_ n ⟨0, Nat.zero_le _, rfl, hst, hj⟩
  rintro k s' ⟨i, hi, rfl, hSt, hJ⟩
  by_cases hlt : i < n
  · refine W.item i s' _ _ hlt hSt fun T vals h' tk hv hT hmid hk => ?_
    have hJ' := stab i s' h' tk hJ (hF _ _ hSt) hk
    refine W.go _ _ _ _ _ _ _ _ hmid fun h'' hSt' hk' => ?_
    have hJ'' := stab i _ h'' tk hJ' (hM _ _ _ hmid) hk'
    have hT'' : h''.IsTuple T vals := let ⟨o, e, r⟩ := hT; ⟨o, hk' _ o (W.apart _ _ _ hmid) e, r⟩
    refine wpN.up (wpAny_mono (turn i T vals _ hlt hv hSt' hT'' hJ'') (fun _ s2 h2 => wpN.up (wpAny_mono h2 (fun f s3 h3 => ?_) fun _ _ z => z)) fun _ _ z => z)
    obtain ⟨rfl, hJ3, hfp⟩ := h3
    exact ⟨n - (i + 1), by (first | lia | omega), i + 1, hlt, rfl, W.frame _ _ _ hSt' hfp, hJ3⟩
  · obtain rfl : i = n := Nat.le_antisymm hi (Nat.not_lt.mp hlt)
    refine W.done s' _ _ hSt fun h' tk hk => ?_
    exact wpAny_execs_nil ⟨_, rfl, fin _ (stab _ _ _ _ hJ (hF _ _ hSt) hk)⟩

/-- enumerate(list) -/
theorem enum_ls {a : Nat} {vs : List Value} {Q : Value → Shared → Prop} (hl : Ls s.heap a vs)
    (h : ∀ (e : Nat) s', e = s.heap.objs.size + 1 → (∃ old, IsEnum s'.heap e s.heap.objs.size 0 old) ∧ s'.heap.IsListIter s.heap.objs.size a 0 ∧ s'.heap.IsList a vs.toArray → Go [] s s' → (∀ b o, s.heap.get? b = some o → s'.heap.get? b = some o) → Q (.ref e) s') :
    wpN w A (call (.type "enumerate") [.ref a]) (fun x s₁ => wpN w A (pyIter x) Q s₁) s := by
  refine call_enumerate_list hl.isList fun h' he hit hsz hk => wpAny_pyIter_enum he (h _ { s with heap := h' } rfl ⟨⟨_, he⟩, hit, hl.isList.at fun o e => hk _ _ e⟩ (.of_keeps hk) hk)
theorem fld_enum {e it a : Addr} {i : Nat} {vs : Array Value} {h : Heap} (st : (∃ old, IsEnum h e it i old) ∧ h.IsListIter it a i ∧ h.IsList a vs) : ∀ b ∈ [e, it], Fld h b := by
  obtain ⟨⟨old, he⟩, ⟨o, ho, _, d⟩, _⟩ := st
  intro b hb
  simp only [List.mem_cons, List.not_mem_nil, or_false] at hb
  rcases hb with rfl | rfl
  · exact ⟨_, _, he, rfl⟩
  · exact ⟨_, _, ho, d⟩
theorem fld_enumM {e it a T : Addr} {i : Nat} {vs : Array Value} {h : Heap} (st : (∃ x, IsEnumOut h e it ((i : Int) + 1) x T) ∧ h.IsListIter it a (i + 1) ∧ h.IsList a vs ∧ T ≠ e ∧ T ≠ it) : ∀ b ∈ [e, it], Fld h b := by
  obtain ⟨⟨old, he⟩, ⟨o, ho, _, d⟩, _⟩ := st
  intro b hb
  simp only [List.mem_cons, List.not_mem_nil, or_false] at hb
  rcases hb with rfl | rfl
  · exact ⟨_, _, he, rfl⟩
  · exact ⟨_, _, ho, d⟩

theorem k_acc (P : Params) : nsIn (KF P) 3 "_Accumulator" = some (some (.ref 108)) := by kernel_rfl
theorem kp_acc (P : Params) : keepIn (KF P) (.ref 108) = true := by kernel_rfl
theorem kp_push (P : Params) : keepIn (KF P) (.ref 52) = true := by kernel_rfl
theorem f_pop (P : Params) : findIn (KF P) (.ref 108) "pop" = some (some (.ref 68)) := by kernel_rfl
theorem t_pop' (P : Params) : typeIn (KF P) (.ref 68) = some (.type "function") := by kernel_rfl
theorem f_push (P : Params) : findIn (KF P) (.ref 108) "push" = some (some (.ref 52)) := by kernel_rfl
theorem t_push (P : Params) : typeIn (KF P) (.ref 52) = some (.type "function") := by kernel_rfl
/-- x = _Accumulator() -/
theorem acc_new {pos p : Pos} {Q : Value → Shared → Prop} (f : Fm env) (c : Cx w s.heap) (r : Rm 3 A) (hx : env.kindOf "_Accumulator" = some .globalImplicit)
    (h : ∀ (x d : Nat) s', s.heap.objs.size ≤ x → s.heap.objs.size ≤ d → Stk s'.heap x d [] → Go [] s s' → Q (.ref x) s') : wpN w A (eval (.Call (.Name "_Accumulator" p) [] [] pos) env) Q s := by
  refine wpAny_Call_NameR (ev_glob c f.kind hx f.glob (k_acc _) ?_ rfl)
  refine callWith_K0 (first := []) c.k (kp_acc _) (new_acc c r fun x d s' h1 h2 a G => h x d s' h1 h2 ⟨#[], a, rfl, fun i p hp => by simp [pcs] at hp⟩ G)
/-- x.pop() -/
theorem pop_e {v : Str} {p apos pos : Pos} {x d : Nat} {stk : List Pc} {Q : Value → Shared → Prop} {pl : Sem Bool} (c : Cx w s.heap) (r : Rm 3 A) (q : Stk s.heap x d stk) (hz : stk.length ≤ 100)
    (he : eval (.Call (.Attribute (.Name v p) "pop" apos) [] [] pos) env = (do
      let ov ← attributeBase (.Name v p) "pop" env (eval (.Name v p) env)
      standAt apos.atName
      let (f, first) ← holding [ov] (getMethod ov "pop" pl)
      callWith pos f first (backTo pos (starEach [] env)) []))
    (hb : attributeBase (.Name v p) "pop" env (eval (.Name v p) env) = eval (.Name v p) env)
    (hv : ∀ {Q : Value → Shared → Prop}, Q (.ref x) s → wpN w A (eval (.Name v p) env) Q s)
    (hQ : ∀ v s', Tp s'.heap v (hd1 stk).1 (hd1 stk).2 → Stk s'.heap x d stk.tail → Go [x] s s' → Q v s') : wpN w A (eval (.Call (.Attribute (.Name v p) "pop" apos) [] [] pos) env) Q s := by
  obtain ⟨xs, ac, tp⟩ := id q
  exact accM (kPO _) (f_pop _) (t_pop' _) rfl he hb (hv ⟨x, d, xs, rfl, c, ac, evalArgs_nil3 ⟨rfl, c, pop_stk c r q hz hQ⟩⟩)
/-- x.part_count() -/
theorem pc_e {v : Str} {p apos pos : Pos} {x d : Nat} {stk : List Pc} {Q : Value → Shared → Prop} {pl : Sem Bool} (c : Cx w s.heap) (r : Rm 2 A) (q : Stk s.heap x d stk)
    (he : eval (.Call (.Attribute (.Name v p) "part_count" apos) [] [] pos) env = (do
      let ov ← attributeBase (.Name v p) "part_count" env (eval (.Name v p) env)
      standAt apos.atName
      let (f, first) ← holding [ov] (getMethod ov "part_count" pl)
      callWith pos f first (backTo pos (starEach [] env)) []))
    (hb : attributeBase (.Name v p) "part_count" env (eval (.Name v p) env) = eval (.Name v p) env)
    (hv : ∀ {Q : Value → Shared → Prop}, Q (.ref x) s → wpN w A (eval (.Name v p) env) Q s)
    (hQ : ∀ tk s', Go [] s s' → Q (.int stk.length tk) s') : wpN w A (eval (.Call (.Attribute (.Name v p) "part_count" apos) [] [] pos) env) Q s := by
  obtain ⟨xs, ac, tp⟩ := id q
  exact accM (kPC _) (f_pc _) (t_pc _) rfl he hb (hv ⟨x, d, xs, rfl, c, ac, evalArgs_nil3 ⟨rfl, c, pc_stk c r q hQ⟩⟩)
theorem hdi108 (P : Params) : hasDictIn (KF P) 108 = true := by kernel_rfl
theorem sg_push (P : Params) : specialIn (KF P) (.ref 52) "__get__" = some (some (.builtin "function.__get__")) := by kernel_rfl
theorem tk_push (P : Params) : takesIn (KF P) (.ref 52) = some false := by kernel_rfl
theorem fi_push (P : Params) : fnIn (KF P) 52 = true := by kernel_rfl
theorem acc_bound {x d : Addr} {xs : Array Value} {b : Bool} {Q : Value → Shared → Prop} (c : Cx w s.heap) (a : Acc s.heap x d xs) (h : ∀ tk, Q (.ref s.heap.objs.size) { s with heap := s.heap.push (methodObj (.ref 52) (.ref x)), toks := tk }) : wpN w A (getAttr (.ref x) "push" b) Q s := by
  unfold getAttr getAttrBy
  refine wpAny_bind (wpAny_mkText ?_)
  have aT : Looks (model pr w) ({ s with toks := s.toks + 1 } : Shared).heap (typeOf (.ref x)) (.ref 108) := acc_type a
  refine wpAny_holding (wpAny_bind (aT.here (wpAny_bind ((looks_findIn (h := s.heap) c.k (f_ga _)).here (s := { s with toks := s.toks + 1 }) ?_))))
  dsimp only
  rw [if_neg (by decide)]
  unfold getAttrByItsOwn hookBefore
  refine wpAny_bind ((show Looks (model pr w) s.heap (if onTheHeap (.ref 108) then typeLookup (.ref 108) "__getattr__" else pure none) none from looks_findIn (h := s.heap) c.k (f_gattr _)).here (s := { s with toks := s.toks + 1 }) ?_)
  refine wpAny_bind (wpAny_attempt (wpAny_holding ?_))
  unfold callGetattribute boundAndCalled
  rw [if_neg (by simp [onTheHeap])]
  refine wpAny_bind (wpAny_of_eq (F.slot_list_getattribute.bind _) ?_)
  have fin : ∀ tk, (match (Except.ok (Value.ref s.heap.objs.size) : Except Value Value) with
      | .ok v => wpN w A (handedOut v) Q { s with heap := s.heap.push (methodObj (.ref 52) (.ref x)), toks := tk }
      | .error _ => True) := fun tk => wpAny_pure (h tk)
  refine wpAny_mono (wpN.up (acc_entry (s := { s with toks := s.toks + 1 }) (Q := fun v s' => v = .ref s.heap.objs.size ∧ s' = { s with heap := s.heap.push (methodObj (.ref 52) (.ref x)), toks := s.toks + 1 }) (n := "__getattribute__") c a (by decide +kernel) (.inl (by decide +kernel)) (by decide +kernel) entry_lga (args_lga _ _) ?_)) (fun v s' hv => ?_) fun _ _ z => z
  · obtain ⟨n, ho⟩ := id a.ob
    obtain ⟨od, hd, D⟩ := id a.di
    have I : InstAt s.heap x ⟨.ref 108, some d, .seq xs n, #[]⟩ 108 (some od) := ⟨ho, rfl, rfl, hd⟩
    unfold Builtin.«object.__getattribute__»
    show wpAny _ _ (do
      let tp ← typeOf (.ref x)
      _) _ _ _
    refine wpAny_bind (aT.here ?_)
    refine wpAny_bind ((looks_find (h := s.heap) c.k I (findObj_fn (hdi108 _) (f_push _) (sg_push _) (tk_push _) (by decide +kernel) (D.no rfl))).here (s := { s with toks := s.toks + 1 }) ?_)
    dsimp only
    show wpAny _ _ (holding [Value.ref 52] (call (.builtin "function.__get__") [.ref 52, .ref x, .ref 108]) >>= ret) _ _ _
    refine wpAny_bind (wpAny_holding (wpAny_call (fn_get (K := KF w.params) (s := { s with toks := s.toks + 1 }) c.k (t_push _) ?_)))
    exact wpAny_pure ⟨_, rfl, rfl, rfl⟩
  · obtain ⟨rfl, rfl⟩ := hv
    exact wpAny_pure (h _)
section
variable {x d : Addr} {xs : Array Value} {stk : List Pc}
local macro_rules | `(tactic| x_close) => `(tactic| (repeat (first | with_reducible refine wpAny_BinOp ?_ | ((with_reducible apply ld (fmPU _)); assumption; rfl; rfl; rfl) | ((with_reducible apply ld (fmPF _)); assumption; rfl; rfl; rfl) | with_reducible refine wpAny_Constant_int ?_ | with_reducible refine wpAny_Constant_str ?_ | with_reducible refine add_int ?_ | with_reducible refine sub_int ?_)))
theorem push_code {Q : Value → Shared → Prop} {a b : Str} {ta tb : Tok} (c : Cx w s.heap) (r : Rm 1 A) (ac : Acc s.heap x d xs) (hz : xs.size ≤ 1000)
    (hQ : ∀ v s', Tp s'.heap v a b → Acc s'.heap x d (xs.push v) → Go [x] s s' → Q .none s') : codeAny (model pr w) A (.call (.ref 52) ⟨[.ref x, .str a ta, .str b tb], []⟩) (fun r s' => ∃ v, r = .ok (.ret v) ∧ Q v s') s := by
  refine CC.enter [("self", .ref x), ("fws", .str a ta), ("string", .str b tb)] [("self", .ref x), ("fws", .str a ta), ("string", .str b tb)] c (kPU _) (st := metS 1) rfl (by kernel_rfl) r.room (BindsTo.of_eq (by kernel_rfl)) (by kernel_rfl) (by kernel_rfl) (by kernel_rfl) (by kernel_rfl) fun L s0 hLd hL N0 G0 c0 => ?_
  have a0 := ac.go G0
  refine wpAt_of_wpAny (wpAny_execs_cons (wpAny_Expr_any (metN (by rfl) (by rfl) ?_)))
  x_close
  refine acc_method c0 a0 (f_append _) (.inr (t_append _)) rfl ?_
  refine callWith_builtin (first := [.ref x]) rfl (evalArgs_plain (sp1 rfl (wpAny_Tuple (sp2 rfl ?_))))
  x_close
  refine ⟨by show 2 ≤ sizeLine; rw [sizeLine]; decide, ?_⟩
  have k1 : ∀ y o, s0.heap.get? y = some o → (s0.heap.push (tpO a b ta tb)).get? y = some o := fun y o e => Heap.get?_push_of_some _ e
  have G1 : Go [] s { s0 with heap := s0.heap.push (tpO a b ta tb) } := G0.new k1
  have ht : (s0.heap.push (tpO a b ta tb)).get? s0.heap.objs.size = some (tpO a b ta tb) := Heap.get?_push_size _ rfl
  refine acc_append (s := { s0 with heap := s0.heap.push (tpO a b ta tb) }) (G1.cx (by simp) c) (a0.keeps k1) hz fun h' a' sb => ?_
  refine wpAny_execs_nil (hQ _ _ ⟨_, _, _, rfl, c0.size, sb.extBut _ _ ?_ ht⟩ a' ((G1.up).upd sb (by simp) ac.lo.1))
  obtain ⟨n, ho⟩ := a0.ob
  exact fun e => absurd (Heap.lt_size ho) (by rw [e]; exact Nat.lt_irrefl _)
theorem push_stkC {Q : Value → Shared → Prop} {ta tb : Tok} {p : Pc} (c : Cx w s.heap) (r : Rm 1 A) (q : Stk s.heap x d stk) (hz : stk.length ≤ 100) (hQ : ∀ s', Stk s'.heap x d (p :: stk) → Go [x] s s' → Q .none s') :
    codeAny (model pr w) A (.call (.ref 52) ⟨[.ref x, .str (pS p).1 ta, .str (pS p).2 tb], []⟩) (fun r s' => ∃ v, r = .ok (.ret v) ∧ Q v s') s := by
  obtain ⟨xs, ac, tp⟩ := q
  have hsz : xs.size = stk.length := by rw [tp.1, pcs_len]
  refine push_code c r ac (by (first | lia | omega)) fun v s' hv a' G => hQ s' ⟨_, a', ?_⟩ G
  rw [pcs_cons]
  exact (tp.goX ac G).push hv
end
/-- x.push(*v) -/
theorem pushS_e {v : Str} {e : Expr} {p apos pos sp : Pos} {x d : Nat} {stk : List Pc} {Q : Value → Shared → Prop} {pc : Pc} (c : Cx w s.heap) (r : Rm 2 A) (q : Stk s.heap x d stk) (hz : stk.length ≤ 100)
    (he : eval (.Call (.Attribute (.Name v p) "push" apos) [.Starred e sp] [] pos) env = (do
      let ov ← attributeBase (.Name v p) "push" env (eval (.Name v p) env)
      standAt apos.atName
      let (f, first) ← holding [ov] (do pure (← getAttr ov "push" true, []))
      let q ← pure pos
      callWith q f first (backTo pos (starEach [.Starred e sp] env)) []))
    (hb : attributeBase (.Name v p) "push" env (eval (.Name v p) env) = eval (.Name v p) env)
    (hv : ∀ {Q : Value → Shared → Prop}, Q (.ref x) s → wpN w A (eval (.Name v p) env) Q s)
    (ha : ∀ s1, Go [] s s1 → (∀ b o, s.heap.get? b = some o → s1.heap.get? b = some o) → wpN w A (eval e env) (fun u s₁ => s₁ = s1 ∧ Tp s1.heap u (pS pc).1 (pS pc).2) s1) (hst : starEach [.Starred e sp] env = [(true, eval e env)])
    (hQ : ∀ s', Stk s'.heap x d (pc :: stk) → Go [x] s s' → Q .none s') : wpN w A (eval (.Call (.Attribute (.Name v p) "push" apos) [.Starred e sp] [] pos) env) Q s := by
  obtain ⟨xs, ac, tp⟩ := id q
  rw [he, hb, hst]
  refine wpAny_bind (hv (wpAny_bind (wpAny_standAt (wpAny_bind (wpAny_holding (wpAny_bind (acc_bound c ac fun tk => wpAny_pure ?_)))))))
  have k1 : ∀ y o, s.heap.get? y = some o → (s.heap.push (methodObj (.ref 52) (.ref x))).get? y = some o := fun y o e => Heap.get?_push_of_some _ e
  have hm : (s.heap.push (methodObj (.ref 52) (.ref x))).get? s.heap.objs.size = some (methodObj (.ref 52) (.ref x)) := Heap.get?_push_size _ rfl
  have G0 : Go [] s { s with heap := s.heap.push (methodObj (.ref 52) (.ref x)), toks := tk } := .of_keeps k1
  refine wpAny_bind (wpAny_pure ?_)
  show wpAny _ _ (callWith pos (.ref s.heap.objs.size) [] _ []) _ _ _
  refine ks_call (P := MethP (KF w.params) s.heap.objs.size 52 (.ref x)) rfl (keeps_M (fi_push _)) (ks_lone (wpAny_mono (ha _ G0 k1) (fun u s₁ h₁ => ?_) fun _ _ z => z))
  obtain ⟨rfl, t, ta, tb, rfl, lt, e4⟩ := h₁
  unfold StarOf notIterableAtAll
  refine wpAny_bind (wpAny_specialOf (T := "tuple") ⟨_, e4, rfl⟩ PySem.F.slot_tuple_iter.lookup (wpAny_pure ⟨rfl, ?_⟩))
  refine wpAny_collect_seq t (.inr rfl) e4 rfl rfl (fun h' hk => ?_) (by rw [sizeLine]; show 2 ≤ _; decide)
  have k2 : ∀ y o, s.heap.get? y = some o → h'.get? y = some o := fun y o e => hk y o (k1 y o e)
  have G1 : Go [] s { s with heap := h', toks := tk } := .of_keeps k2
  have c1 : Cx w h' := G1.cx (by simp) c
  refine ⟨⟨hk _ _ hm, c1.k⟩, wpAny_call (method_call (hk _ _ hm) ?_)⟩
  refine codeAny_mono (push_stkC (w := w) (s := { s with heap := h', toks := tk }) (x := x) (d := d) (stk := stk) (p := pc) (ta := ta) (tb := tb) (Q := Q) c1 (r.mono (by (first | lia | omega))) (q.go G1) hz fun s' q' G => hQ s' q' (G1.up.trans G)) fun r' s' hr => ?_
  obtain ⟨v, rfl, hv⟩ := hr
  exact hv
/-- x.push(a, b) -/
theorem push_e {v : Str} {e1 e2 : Expr} {p apos pos : Pos} {x d : Nat} {stk : List Pc} {Q : Value → Shared → Prop} {pl : Sem Bool} {pc : Pc} (c : Cx w s.heap) (r : Rm 1 A) (q : Stk s.heap x d stk) (hz : stk.length ≤ 100)
    (he : eval (.Call (.Attribute (.Name v p) "push" apos) [e1, e2] [] pos) env = (do
      let ov ← attributeBase (.Name v p) "push" env (eval (.Name v p) env)
      standAt apos.atName
      let (f, first) ← holding [ov] (getMethod ov "push" pl)
      callWith pos f first (backTo pos (starEach [e1, e2] env)) []))
    (hb : attributeBase (.Name v p) "push" env (eval (.Name v p) env) = eval (.Name v p) env)
    (hv : ∀ {Q : Value → Shared → Prop}, Q (.ref x) s → wpN w A (eval (.Name v p) env) Q s) (hst : backTo pos (starEach [e1, e2] env) = [(false, eval e1 env), (false, eval e2 env)])
    (ha : wpN w A (eval e1 env) (fun u s₁ => wpN w A (eval e2 env) (fun u2 s₂ => Go [] s s₂ ∧ (∃ t, u = .str (pS pc).1 t) ∧ ∃ t, u2 = .str (pS pc).2 t) s₁) s)
    (hQ : ∀ s', Stk s'.heap x d (pc :: stk) → Go [x] s s' → Q .none s') : wpN w A (eval (.Call (.Attribute (.Name v p) "push" apos) [e1, e2] [] pos) env) Q s := by
  obtain ⟨xs, ac, tp⟩ := id q
  refine accM (kPU _) (f_push _) (t_push _) rfl he hb (hv ⟨x, d, xs, rfl, c, ac, ?_⟩)
  rw [hst]
  refine evalArgs_plain ?_
  have h2 : wpN w A (spliced (backTo pos (starEach [e1, e2] env))) (fun vs s₂ => Go [] s s₂ ∧ ∃ ta tb, vs = [.str (pS pc).1 ta, .str (pS pc).2 tb]) s := by
    refine sp2 hst (wpAny_mono ha (fun u s₁ h₁ => wpAny_mono h₁ (fun u2 s₂ h₂ => ?_) fun _ _ z => z) fun _ _ z => z)
    obtain ⟨G, ⟨ta, rfl⟩, tb, rfl⟩ := h₂
    exact ⟨G, _, _, rfl⟩
  rw [hst] at h2
  refine wpAny_mono h2 (fun vs s₂ h₂ => ?_) fun _ _ z => z
  obtain ⟨G, ta, tb, rfl⟩ := h₂
  exact ⟨rfl, G.cx (by simp) c, push_stk (G.cx (by simp) c) r (q.go G) hz fun s' q' G' => hQ s' q' (G.up.trans G')⟩
end
end Mine
end

/-! Tr -/
section
open PySem PySem.W PySem.W.X PyProof.Rows PySem.Calls
open Sem (wp)
set_option Elab.async false
set_option maxRecDepth 100000
set_option maxHeartbeats 1000000
namespace Mine
def absorb : List Pc → Nat → List Nat → List Pc
  | [], b, p => [(b, p)]
  | q :: r, b, p => if b ≠ 0 ∧ q.1 = b then absorb r (b - 1) (q.2 ++ p) else (b, p) :: q :: r
def treeS (hs : List Nat) : Nat → List Pc
  | 0 => []
  | i + 1 => absorb (treeS hs i) (hs.getD i 0) [97 + i]
def PcOk (n : Nat) (stk : List Pc) : Prop := (stk.map (·.2.length)).sum ≤ n ∧ ∀ p ∈ stk, 0 < p.2.length ∧ p.1 ≤ 100
theorem absorb_ok : ∀ (stk : List Pc) (n b : Nat) (p : List Nat), PcOk n stk → b ≤ 100 → 0 < p.length → PcOk (n + p.length) (absorb stk b p)
  | [], n, b, p, h, hb, hp => by
    unfold absorb
    refine ⟨by simp, fun q hq => ?_⟩
    obtain rfl : q = (b, p) := by simpa using hq
    exact ⟨hp, hb⟩
  | q :: r, n, b, p, h, hb, hp => by
    unfold absorb
    have h1 := h.1
    have hq := h.2 q List.mem_cons_self
    rw [List.map_cons, List.sum_cons] at h1
    split
    · have := absorb_ok r (n - q.2.length) (b - 1) (q.2 ++ p) ⟨by (first | lia | omega), fun y hy => h.2 y (List.mem_cons_of_mem _ hy)⟩ (by (first | lia | omega)) (by simp; (first | lia | omega))
      rw [List.length_append] at this
      rwa [show n - q.2.length + (q.2.length + p.length) = n + p.length by (first | lia | omega)] at this
    · refine ⟨by simp only [List.map_cons, List.sum_cons]; (first | lia | omega), fun y hy => ?_⟩
      rcases List.mem_cons.mp hy with rfl | hy
      · exact ⟨hp, hb⟩
      · exact h.2 y hy
theorem treeS_ok (hs : List Nat) (hb : ∀ h ∈ hs, h ≤ 100) : ∀ i, PcOk i (treeS hs i)
  | 0 => ⟨by simp [treeS], fun p hp => nomatch hp⟩
  | i + 1 => by
    unfold treeS
    refine absorb_ok _ i _ _ (treeS_ok hs hb i) ?_ (by simp)
    rw [List.getD_eq_getElem?_getD]
    cases q : hs[i]? with
    | none => simp
    | some h => exact hb h (List.mem_of_getElem? q)
theorem PcOk.len {n : Nat} {stk : List Pc} (h : PcOk n stk) : stk.length ≤ n := by
  have : ∀ (l : List Pc), (∀ p ∈ l, 0 < p.2.length ∧ p.1 ≤ 100) → l.length ≤ (l.map (·.2.length)).sum := by
    intro l
    induction l with
    | nil => intro _; simp
    | cons q r ih =>
      intro hl
      have h1 := ih fun p hp => hl p (List.mem_cons_of_mem _ hp)
      have h2 := (hl q List.mem_cons_self).1
      simp only [List.map_cons, List.sum_cons, List.length_cons]
      (first | lia | omega)
  exact Nat.le_trans (this stk h.2) h.1
theorem le_sum_mem : ∀ (l : List Nat) (k : Nat), k ∈ l → k ≤ l.sum
  | x :: l, k, h => by
    rw [List.sum_cons]
    rcases List.mem_cons.mp h with rfl | h
    · (first | lia | omega)
    · have := le_sum_mem l k h
      (first | lia | omega)
theorem PcOk.each {n : Nat} {stk : List Pc} (h : PcOk n stk) : ∀ p ∈ stk, p.2.length ≤ n := by
  intro p hp
  have : p.2.length ≤ (stk.map (·.2.length)).sum := by
    have h1 : p.2.length ∈ stk.map (·.2.length) := List.mem_map.mpr ⟨p, hp, rfl⟩
    exact le_sum_mem _ _ h1
  exact Nat.le_trans this h.1
section
variable {w : World} {W : List Addr} {s0 st s s' : Shared} {L x d : Nat} {l l' : List (Str × Value)} {stk stk' : List Pc} {A : Around} {env : Env}
theorem Stk.butX {h h' : Heap} {x d L : Addr} (q : Stk h x d stk) (N : Nl h L l) (hd : d ≠ L) (hk : ∀ y o, y ≠ L → h.get? y = some o → h'.get? y = some o) : Stk h' x d stk := by
  obtain ⟨xs, a, t⟩ := q
  obtain ⟨oL, es, ep, eL, dL⟩ := N.dict
  obtain ⟨n, ho⟩ := a.ob
  obtain ⟨od, hd', D⟩ := a.di
  refine ⟨xs, ⟨⟨n, hk _ _ ?_ ho⟩, ⟨od, hk _ _ hd hd', D⟩, a.lo⟩, t.1, fun i p hp => ?_⟩
  · rintro rfl
    rw [ho] at eL
    cases eL
    cases dL
  · obtain ⟨v, e1, t, ta, tb, e2, e3, e4⟩ := t.2 i p hp
    refine ⟨v, e1, t, ta, tb, e2, e3, hk _ _ ?_ e4⟩
    rintro rfl
    rw [e4] at eL
    cases eL
    cases dL
theorem Go.updX {W : List Addr} {s₀ s : Shared} {h' : Heap} {tk : Nat} {a : Addr} (G : Go W s₀ s) (hs : ∀ y o, y ≠ a → s.heap.get? y = some o → h'.get? y = some o) (ha : a ∈ W) (la : 135 ≤ a) : Go W s₀ { s with heap := h', toks := tk } :=
  ⟨fun b o hn h7 h8 e => hs b o (fun q => hn (q ▸ ha)) (G.keep b o hn h7 h8 e), G.gens, G.dr, G.os, fun t => (G.tab t).keeps (fun o e => hs _ o (by rintro rfl; exact absurd la (by decide)) e) fun o e => hs _ o (by rintro rfl; exact absurd la (by decide)) e⟩
theorem Bx.setX (b : Bx w W s0 st s L x d l stk) {h' : Heap} {tk : Nat} (N : Nl h' L l') (hk : ∀ y o, y ≠ L → s.heap.get? y = some o → h'.get? y = some o) : Bx w W s0 st { s with heap := h', toks := tk } L x d l' stk :=
  ⟨N, b.q.butX b.n (Nat.ne_of_gt b.ld) hk, b.g.ext (wr := [L]) (fun y o hy e => hk y o (fun q => hy (by simp [q])) e) (by simpa using b.l0), b.t.updX hk b.wl b.L135, b.c0, b.l0, b.lx, b.ld, b.wx, b.wl⟩
theorem Go.tp {v : Value} {a b : Str} (G : Go [] s s') (T : Tp s.heap v a b) : Tp s'.heap v a b := T.go G
/-- a name is stored -/
theorem Bx.store {y : Str} {v : Value} {Q : Unit → Shared → Prop} (b : Bx w W s0 st s L x d l stk) (l' : List (Str × Value)) (f : Fm env) (hL : env.locals = L) (hl : env.kindOf y = some .local) (e : l'.map (fun p => ((y, v) :: l).lookup p.1) = l'.map (fun p => some p.2))
    (h : ∀ s', Bx w W s0 st s' L x d l' stk → Heap.SameBut L s.heap s'.heap → Q () s') : wpN w A (storeName env y v) Q s := by
  subst hL
  exact Mine.st f b.n hl e fun h' N' hs => h _ (b.set N' hs) hs
end
def hdl : List Pc → List Nat × List Nat
  | [] => ([], [])
  | q :: _ => (List.replicate q.1 32, q.2)
theorem hd1_eq (cur : List Pc) : hd1 cur = (S (hdl cur).1, S (hdl cur).2) := by cases cur <;> rfl
theorem rep_eq {a b : Nat} (h : List.replicate a 32 = List.replicate b 32) : a = b := by
  have := congrArg List.length h
  simpa using this
theorem absorb_step {cur : List Pc} {b : Nat} {part : List Nat} (h : (List.replicate b 32 != ([] : List Nat)) = true) (h2 : ((hdl cur).1 == List.replicate b 32) = true) : ∃ r q, cur = q :: r ∧ 0 < b ∧ q.1 = b ∧ absorb cur b part = absorb r (b - 1) (q.2 ++ part) := by
  have hb : 0 < b := by
    rcases Nat.eq_zero_or_pos b with rfl | hb
    · simp at h
    · exact hb
  rw [beq_iff_eq] at h2
  cases cur with
  | nil =>
    have := congrArg List.length h2
    simp [hdl] at this
    (first | lia | omega)
  | cons q r =>
    have e : q.1 = b := rep_eq h2
    exact ⟨r, q, rfl, hb, e, by rw [absorb, if_pos ⟨by (first | lia | omega), e⟩]⟩
theorem absorb_stop {cur : List Pc} {b : Nat} {part : List Nat} (h : ¬ ((List.replicate b 32 != ([] : List Nat)) = true ∧ ((hdl cur).1 == List.replicate b 32) = true)) : absorb cur b part = (b, part) :: cur := by
  cases cur with
  | nil => rfl
  | cons q r =>
    rw [absorb, if_neg]
    rintro ⟨h1, h2⟩
    refine h ⟨?_, ?_⟩
    · rw [bne_iff_ne]
      intro e
      have := congrArg List.length e
      simp at this
      (first | lia | omega)
    · rw [beq_iff_eq]
      show List.replicate q.1 32 = _
      rw [h2]
abbrev eTR (L : Addr) : Env := callEnv fdTR L 129
theorem fmTR (L : Addr) : Fm (eTR L) := ⟨rfl, rfl, rfl⟩
theorem sp_32 : Str.ofString " " = S [32] := by decide
section
variable {w : World} {A : Around} {s : Shared} {env : Env}
local macro_rules | `(tactic| x_close) => `(tactic| (repeat (first | with_reducible refine wpAny_BinOp ?_ | ((with_reducible apply ld (fmTR _)); assumption; rfl; rfl; rfl) | with_reducible refine wpAny_Constant_int ?_ | with_reducible refine wpAny_Constant_str ?_ | with_reducible refine add_int ?_ | with_reducible refine sub_int ?_)))
theorem tree_call {a : Nat} {vs : List Value} {hs : List Nat} {Q : Value → Shared → Prop} (c : Cx w s.heap) (tb : Tbs s.heap) (r : Rm 8 A) (hl : Ls s.heap a vs) (ha : 135 ≤ a) (hi : Ints vs (hs.map fun (h : Nat) => (h : Int))) (h6 : hs.length ≤ 6) (hb : ∀ h ∈ hs, h ≤ 100)
    (hQ : ∀ (l : Nat) t1 t2 s', Ls s'.heap l [.int (treeS hs hs.length).length t1, .str (strT (pcs (treeS hs hs.length))) t2] → s.heap.objs.size ≤ l → Go [] s s' → Q (.ref l) s') : wpN w A (call (.ref 129) [.ref a]) Q s := by
  have hlen : vs.length = hs.length := by have := hi.len; simpa using this
  have has : a < s.heap.objs.size := ltN (Classical.choose_spec hl)
  refine N.enter [("heights", .ref a)] [("heights", .ref a)] c (kTR _) (st := topS 9) rfl (by kernel_rfl) r.room (by kernel_rfl) (by kernel_rfl) (by kernel_rfl) (by kernel_rfl) (by kernel_rfl) fun L s0 hLd hL N0 G0 c0 => ?_
  have r := r.deeper (env := eTR L)
  have lt0 := N0.lt
  -- tree = _Accumulator()
  refine seqn (asg (acc_new (fmTR L) c0 (r.mono (by (first | lia | omega))) rfl fun x d s1 hx hd q1 G1 => ?_) (by rfl))
  refine st (fmTR L) (N0.go G1 hL) rfl (l' := [("heights", .ref a), ("tree", .ref x)]) (by kernel_rfl) fun h2 N2 hs2 => ?_
  have hxL : L < x := Nat.lt_of_lt_of_le lt0 hx
  have hdL : L < d := Nat.lt_of_lt_of_le lt0 hd
  have B1 : Bx w [x, L] s { s1 with heap := h2, toks := s1.toks + 1 } { s1 with heap := h2, toks := s1.toks + 1 } L x d [("heights", .ref a), ("tree", .ref x)] [] :=
    ⟨N2, q1.but (N0.go G1 hL) (neN (by (first | lia | omega))) hs2, (G0.trans G1).same hs2 (Nat.le_of_eq hLd), .refl _ _, c, Nat.le_of_eq hLd, hxL, hdL, by simp, by simp⟩
  generalize ({ s1 with heap := h2, toks := s1.toks + 1 } : Shared) = s2 at B1
  clear N2 hs2 q1 G1 N0 G0 c0
  -- the loop
  have N := B1.n
  refine seqn (exec_for (callT (fmTR L) B1.c rfl (b_enumerate _) rfl rfl rfl (sp1 rfl ?_)) (fun _ => rfl))
  x_close
  have hl2 : Ls s2.heap a vs := hl.go B1.g ha
  refine enum_ls hl2 fun e s3 he hst G3 hk3 => ?_
  have B3 := (B1.go G3).turn
  have hz2 : s.heap.objs.size ≤ s2.heap.objs.size := by have := B1.n.lt; (first | lia | omega)
  have hWa : a ∉ [x, L] := ni2 ⟨by (first | lia | omega), by (first | lia | omega)⟩
  refine forT_ruleF (Pt := fun i vals => ∃ t x, vs.toArray[i]? = some x ∧ vals = #[.int i t, x]) (WalksT.enumerate r.h e s2.heap.objs.size a (neN (by (first | lia | omega))) (neN (by have := ltN (Classical.choose_spec hl2); (first | lia | omega))) (neN (by have := ltN (Classical.choose_spec hl2); (first | lia | omega))) vs.toArray).toU
    (fun i u => Bx w [x, L] s u u L x d [("tree", .ref x)] (treeS hs i)) (fun _ _ st => fld_enum st) (fun _ _ _ st => fld_enumM st) ?_ ?_ hst ?_ ?_
  · intro i u h' tk b hf hk
    exact b.kp hf hk (by simp; (first | lia | omega))
  · rintro i T vals u hi' ⟨th, xv, hxv, rfl⟩ hSt hT b
    obtain ⟨t2, rfl⟩ := hi.at (by simpa using hxv)
    have hi'' : i < hs.length := by rw [← hlen]; simpa using hi'
    have ehs : (hs.map fun (h : Nat) => (h : Int)).getD i 0 = ((hs.getD i 0 : Nat) : Int) := by
      rw [List.getD_eq_getElem?_getD, List.getD_eq_getElem?_getD, List.getElem?_map, List.getElem?_eq_getElem hi'']
      rfl
    rw [ehs] at hT
    have hh100 : hs.getD i 0 ≤ 100 := by
      rw [List.getD_eq_getElem?_getD, List.getElem?_eq_getElem hi'']
      exact hb _ (List.getElem_mem hi'')
    have hok := treeS_ok hs hb i
    generalize hH : hs.getD i 0 = H at hh100
    rw [hH] at hT
    have hFl := fld_enum hSt
    refine assign2 [("tree", .ref x), ("place", .int i th)] r.h hT (fmTR L) b.n rfl rfl (l' := [("tree", .ref x), ("place", .int i th), ("height", .int H t2)]) (by kernel_rfl) (by kernel_rfl) fun h4 tk4 N4 hk4 => ?_
    have B4 := b.setX (tk := tk4) N4 hk4
    generalize ({ u with heap := h4, toks := tk4 } : Shared) = u4 at B4
    clear N4 hk4
    have N4 := B4.n
    -- blanks = ' ' * height
    refine seqn (asg ?_ (by rfl))
    x_close
    rw [sp_32]
    refine mul_s (by (first | lia | omega)) fun t5 tk5 => ?_
    refine (B4.tok _).store [("tree", .ref x), ("place", .int i th), ("blanks", .str (S (List.replicate H 32)) t5)] (fmTR L) rfl rfl (by kernel_rfl) fun u5 B5 _ => ?_
    have N5 := B5.n
    -- part = chr(97 + place)
    refine seqn (asg ?_ (by rfl))
    refine callB (fmTR L) B5.c rfl (b_chr _) rfl rfl rfl (sp1 rfl ?_)
    x_close
    refine chr_s (by (first | lia | omega)) (by (first | lia | omega)) fun t6 tk6 => ?_
    rw [show ((97 : Int) + i).toNat = 97 + i by (first | lia | omega)]
    refine (B5.tok _).store [("tree", .ref x), ("blanks", .str (S (List.replicate H 32)) t5), ("part", .str (S [97 + i]) t6)] (fmTR L) rfl rfl (by kernel_rfl) fun u6 B6 _ => ?_
    have N6 := B6.n
    -- last = tree.pop()
    refine seqn (asg ?_ (by rfl))
    refine pop_e B6.c (r.mono (by (first | lia | omega))) B6.q (by have := hok.len; (first | lia | omega)) (by rfl) (by rfl) (fun h => ld (fmTR L) N6 rfl rfl rfl h) fun v u7 T7 q7 G7 => ?_
    refine (B6.goX q7 G7).store [("tree", .ref x), ("blanks", .str (S (List.replicate H 32)) t5), ("part", .str (S [97 + i]) t6), ("last", v)] (fmTR L) rfl rfl (by kernel_rfl) fun u8 B8 hs8 => ?_
    have T8 := T7.but (B6.goX q7 G7).n hs8
    -- while
    refine seqn (wpAny_mono (Mine.N.whl (Q := fun f z => f = .next ∧ ∃ cur n part tb tp v k, (n, part) :: cur = absorb (treeS hs i) H [97 + i] ∧ PcOk k cur ∧ 0 < part.length ∧ k + part.length ≤ i + 1 ∧ n ≤ 100 ∧
      Bx w [x, L] s u z L x d [("tree", .ref x), ("blanks", .str (S (List.replicate n 32)) tb), ("part", .str (S part) tp), ("last", v)] cur.tail ∧ Tp z.heap v (hd1 cur).1 (hd1 cur).2) (fun n z => ∃ cur part tb tp v k, absorb cur n part = absorb (treeS hs i) H [97 + i] ∧ PcOk k cur ∧ 0 < part.length ∧ k + part.length ≤ i + 1 ∧ n ≤ 100 ∧
      Bx w [x, L] s u z L x d [("tree", .ref x), ("blanks", .str (S (List.replicate n 32)) tb), ("part", .str (S part) tp), ("last", v)] cur.tail ∧ Tp z.heap v (hd1 cur).1 (hd1 cur).2) ?_ H ?_) (fun f z hz => ?_) fun _ _ z => z)
    · rintro n z ⟨cur, part, tb, tp, v, k, eab, hk, hp0, hkp, hn, B, T⟩
      have N := B.n
      rw [hd1_eq] at T
      refine isTrue_and (wpAny_isTrue_Compare1 ?_)
      x_close
      rw [S_nil]
      refine ne_s (truthy_bool ?_)
      have B9 := B.tok (z.toks + 1)
      have T9 : Tp ({ z with toks := z.toks + 1 } : Shared).heap v (S (hdl cur).1) (S (hdl cur).2) := T
      have hcl : cur.length ≤ 6 := by have := hk.len; (first | lia | omega)
      by_cases h1 : (List.replicate n 32 != ([] : List Nat)) = true
      · rw [if_pos h1]
        refine isTrue_and (wpAny_isTrue_Compare1 (wpAny_Subscript_Constant_late ?_))
        x_close
        refine tp_at T9 (.inl rfl) fun t9 => ?_
        rw [if_pos rfl]
        have N := B9.n
        x_close
        refine eq_s (truthy_bool ?_)
        by_cases h2 : ((hdl cur).1 == List.replicate n 32) = true
        · rw [if_pos h2]
          refine isTrue_and_nil ?_
          rw [if_pos rfl]
          obtain ⟨rr, q, rfl, hn0, hq, hab⟩ := absorb_step (part := part) h1 h2
          obtain ⟨n, rfl⟩ : ∃ m, n = m + 1 := ⟨n - 1, by (first | lia | omega)⟩
          -- blanks = blanks[1:]
          refine seqn (asg (from1_s ?_ (fun _ _ => rfl)) (by rfl))
          x_close
          rw [evalPart_some]
          x_close
          refine ⟨32, List.replicate n 32, tb, _, rfl, rfl, by simp; (first | lia | omega), fun ta z2 G2 _ => ?_⟩
          have T10 := G2.tp T9
          refine ((B9.tok _).go G2).store [("tree", .ref x), ("blanks", .str (S (List.replicate n 32)) ta), ("part", .str (S part) tp), ("last", v)] (fmTR L) rfl rfl (by kernel_rfl) fun z3 B11 hs11 => ?_
          have T11 := T10.but ((B9.tok _).go G2).n hs11
          have N := B11.n
          -- part = last[1] + part
          refine seqn (asg ?_ (by rfl))
          refine wpAny_BinOp (wpAny_Subscript_Constant_late ?_)
          x_close
          refine tp_at T11 (.inr rfl) fun t12 => ?_
          rw [if_neg (by decide)]
          x_close
          have hpl := (hk.each q List.mem_cons_self)
          refine add_s (by show q.2.length + _ ≤ _; (first | lia | omega)) fun t13 tk13 => ?_
          refine (B11.tok _).store [("tree", .ref x), ("blanks", .str (S (List.replicate n 32)) ta), ("part", .str (S (q.2 ++ part)) t13), ("last", v)] (fmTR L) rfl rfl (by kernel_rfl) fun z4 B14 hs14 => ?_
          have N := B14.n
          -- last = tree.pop()
          refine seqn (asg ?_ (by rfl))
          refine pop_e B14.c (r.mono (by (first | lia | omega))) B14.q (by simp at hcl ⊢; (first | lia | omega)) (by rfl) (by rfl) (fun h => ld (fmTR L) N rfl rfl rfl h) fun v2 z5 T15 q15 G15 => ?_
          refine (B14.goX q15 G15).store [("tree", .ref x), ("blanks", .str (S (List.replicate n 32)) ta), ("part", .str (S (q.2 ++ part)) t13), ("last", v2)] (fmTR L) rfl rfl (by kernel_rfl) fun z6 B16 hs16 => ?_
          have T16 := T15.but (B14.goX q15 G15).n hs16
          have hk1 := hk.1
          rw [List.map_cons, List.sum_cons] at hk1
          refine wpAny_execs_nil ⟨rfl, n, Nat.lt_succ_self _, rr, q.2 ++ part, ta, t13, v2, k - q.2.length, ?_, ⟨by (first | lia | omega), fun y hy => hk.2 y (List.mem_cons_of_mem _ hy)⟩, by simp; (first | lia | omega), by simp; (first | lia | omega), by (first | lia | omega), B16, T16⟩
          rw [← eab, hab]
          rfl
        · rw [if_neg h2, if_neg (by decide)]
          refine ⟨rfl, cur, n, part, tb, tp, v, k, ?_, hk, hp0, hkp, hn, B9.tok _, hd1_eq cur ▸ T9⟩
          rw [← eab, absorb_stop fun h => h2 h.2]
      · rw [if_neg h1, if_neg (by decide)]
        refine ⟨rfl, cur, n, part, tb, tp, v, k, ?_, hk, hp0, hkp, hn, B9, hd1_eq cur ▸ T9⟩
        rw [← eab, absorb_stop fun h => h1 h.1]
    · exact ⟨_, _, _, _, _, i, rfl, hok, by simp, by simp, hh100, B8, T8⟩
    obtain ⟨rfl, cur, n, part, tb, tp, v2, k, eab, hk, hp0, hkp, hn, B, T⟩ := hz
    clear B4 B5 B6 B8 T7 T8 q7 G7 hs8 N4 N5 N6
    have N := B.n
    have hcl : cur.length ≤ 6 := by have := hk.len; (first | lia | omega)
    rw [hd1_eq] at T
    -- if last != ('', '')
    refine seqn (wpAny_mono (wpAny_If (Q := fun f z2 => f = .next ∧ Bx w [x, L] s u z2 L x d [("tree", .ref x), ("blanks", .str (S (List.replicate n 32)) tb), ("part", .str (S part) tp), ("last", v2)] cur) (wpAny_isTrue_Compare1 ?_)) (fun f z2 hz => ?_) fun _ _ z => z)
    · x_close
      refine wpAny_Tuple (sp2 rfl ?_)
      x_close
      refine ⟨by show 2 ≤ sizeLine; rw [sizeLine]; decide, ?_⟩
      have k1 : ∀ y o, z.heap.get? y = some o → (z.heap.push (tpO "" "" z.toks (z.toks + 1))).get? y = some o := fun y o e => Heap.get?_push_of_some _ e
      have G1 : Go [] z { z with heap := z.heap.push (tpO "" "" z.toks (z.toks + 1)), toks := z.toks + 1 + 1 } := .of_keeps k1
      have T1 := G1.tp T
      have B1 := B.go G1
      refine tup_ne (a' := "") (b' := "") (by have := r.units; exact this) T1 ⟨z.heap.objs.size, _, _, rfl, Nat.le_of_lt (Nat.lt_of_le_of_lt B.L135 B.n.lt), Heap.get?_push_size _ rfl⟩ (truthy_bool ?_)
      rw [S_nil, S_beq, S_beq]
      cases cur with
      | nil =>
        rw [if_neg (by decide)]
        exact wpAny_execs_nil ⟨rfl, B1⟩
      | cons q rr =>
        have hq := (hk.2 q List.mem_cons_self).1
        rw [if_pos (by
          have : (q.2 == ([] : List Nat)) = false := by
            rw [beq_eq_false_iff_ne]
            intro e
            rw [e] at hq
            exact absurd hq (by decide)
          show (!((hdl (q :: rr)).1 == [] && q.2 == [])) = true
          rw [this]; simp)]
        have N := B1.n
        refine seqn (wpAny_Expr_any (pushS_e B1.c (r.mono (by (first | lia | omega))) B1.q (by simp at hcl ⊢; (first | lia | omega)) (by rfl) (by rfl) (fun h => ld (fmTR L) N rfl rfl rfl h) (pc := q) (fun s1 G1 k1 => ?_) rfl fun z3 q3 G3 => ?_))
        · refine ld (fmTR L) (N.go G1 hL) rfl rfl rfl ?_
          exact ⟨rfl, G1.tp T1⟩
        · exact wpAny_execs_nil ⟨rfl, B1.goX q3 G3⟩
    obtain ⟨rfl, B2⟩ := hz
    have N := B2.n
    -- tree.push(blanks, part)
    refine seqn (wpAny_Expr_any (push_e (pc := (n, part)) B2.c (r.mono (by (first | lia | omega))) B2.q (by (first | lia | omega)) (by rfl) (by rfl) (fun h => ld (fmTR L) N rfl rfl rfl h) rfl ?_ fun z3 q3 G3 => ?_))
    · x_close
      exact ⟨.refl _ _, ⟨_, rfl⟩, _, rfl⟩
    have Bz := (B2.goX q3 G3).sub (l' := [("tree", .ref x)]) (by kernel_rfl)
    rw [eab] at Bz
    have etr : absorb (treeS hs i) H [97 + i] = treeS hs (i + 1) := by rw [treeS, hH]
    rw [etr] at Bz
    refine wpAny_execs_nil ⟨rfl, Bz.turn, fun y hy o ey => ?_⟩
    have hz2' := B1.c.size
    simp only [List.mem_cons, List.not_mem_nil, or_false] at hy
    rcases hy with rfl | rfl | rfl
    · exact Bz.t.getW ey (by show @LE.le Nat _ 135 y; (first | lia | omega)) (Go.fld (hFl _ (by simp)) b.q b.n)
    · exact Bz.t.getW ey hz2' (Go.fld (hFl _ (by simp)) b.q b.n)
    · exact Bz.t.getW ey ha hWa
  · exact B3.sub (by kernel_rfl)
  · intro u b
    have N := b.n
    have e1 : vs.toArray.size = hs.length := by simpa using hlen
    rw [e1] at b
    have hok := treeS_ok hs hb hs.length
    have hln := hok.len
    refine seqn (wpAny_Return_some (wpAny_List (sp2 rfl ?_)))
    refine pc_e b.c (r.mono (by (first | lia | omega))) b.q (by rfl) (by rfl) (fun h => ld (fmTR L) N rfl rfl rfl h) fun t1 u1 G1 => ?_
    have b1 := b.go G1
    have N := b1.n
    refine callT (fmTR L) b1.c rfl (b_str _) rfl rfl rfl (sp1 rfl ?_)
    x_close
    obtain ⟨xs, ac, tp⟩ := b1.q
    refine str_acc b1.c (b1.g.tab tb) (r.mono (by (first | lia | omega))) ac tp (by rw [pcs_len]; (first | lia | omega)) (fun p hp => ?_) fun t2 u2 G2 => ?_
    · unfold pcs at hp
      obtain ⟨q, hq, rfl⟩ := List.mem_map.mp hp
      rw [List.mem_reverse] at hq
      have h1 := hok.each q hq
      have h2 := (hok.2 q hq).2
      simp only [pS, S_len, List.length_replicate]
      (first | lia | omega)
    · have k3 : ∀ y o, u2.heap.get? y = some o → (u2.heap.push (liO [.int (treeS hs hs.length).length t1, .str (strT (pcs (treeS hs hs.length))) t2])).get? y = some o := fun y o e => Heap.get?_push_of_some _ e
      refine ⟨by show 2 ≤ sizeLine; rw [sizeLine]; decide, ?_⟩
      refine hQ _ t1 t2 _ ⟨_, Heap.get?_push_size _ rfl⟩ ?_ ((b1.g.trans G2).new (tk := u2.toks) k3)
      have := (b1.go G2).n.lt
      (first | lia | omega)
end
end Mine
end

/-! By -/
section
open PySem PySem.W PySem.W.X PyProof.Rows PySem.Calls
open Sem (wp)
set_option Elab.async false
set_option maxRecDepth 100000
set_option maxHeartbeats 1000000
namespace Mine
/-- octets by their numbers -/
def Bt (l : List Nat) : Array UInt8 := (l.map Nat.toUInt8).toArray
theorem Bt_size (l : List Nat) : (Bt l).size = l.length := by simp [Bt]
theorem Bt_app (a b : List Nat) : Bt a ++ Bt b = Bt (a ++ b) := by simp [Bt]
theorem u8_nat {n : Nat} (h : n < 256) : n.toUInt8.toNat = n := by
  show (UInt8.ofNat n).toNat = n
  rw [UInt8.toNat_ofNat']
  exact Nat.mod_eq_of_lt h
theorem Bt_get {l : List Nat} (hb : ∀ k ∈ l, k < 256) {i : Nat} (hi : i < l.length) : ((Bt l).getD i 0).toNat = l.getD i 0 := by
  unfold Bt
  rw [Array.getD_eq_getD_getElem?, List.getD_eq_getElem?_getD, List.getElem?_toArray, List.getElem?_map, List.getElem?_eq_getElem hi]
  exact u8_nat (hb _ (List.getElem_mem hi))
theorem Bt_inj {a b : List Nat} (ha : ∀ k ∈ a, k < 256) (hb : ∀ k ∈ b, k < 256) (h : Bt a = Bt b) : a = b := by
  have h1 : (Bt a).toList.map UInt8.toNat = (Bt b).toList.map UInt8.toNat := by rw [h]
  have e : ∀ l : List Nat, (∀ k ∈ l, k < 256) → (Bt l).toList.map UInt8.toNat = l := by
    intro l hl
    simp only [Bt, List.map_map]
    conv => rhs; rw [← List.map_id l]
    exact List.map_congr_left fun k hk => u8_nat (hl k hk)
  rwa [e a ha, e b hb] at h1
section
variable {w : World} {A : Around} {s : Shared} {env : Env} {l : List Nat} {t : Tok}
theorem sub_bt {i : Int} {u : Tok} {Q : Value → Shared → Prop} (hz : l.length ≤ 1000) (hb : ∀ k ∈ l, k < 256) (h0 : 0 ≤ i) (h1 : i < l.length) (h : ∀ t tk, Q (.int (l.getD i.toNat 0 : Nat) t) { s with toks := tk }) :
    SubscriptOn (model pr w) A (.bytes (Bt l) t) (.int i u) Q No s := by
  refine sub_bytes (by rw [Bt_size]; exact hz) h0 (by rw [Bt_size]; exact h1) ?_
  rw [Bt_get hb (by (first | lia | omega))]
  exact h _ _
theorem len_bt {Q : Value → Shared → Prop} (hz : l.length ≤ 1000) (h : ∀ t tk, Q (.int l.length t) { s with toks := tk }) : wpN w A (call (.builtin "len") [.bytes (Bt l) t]) Q s := by
  refine len_b (by rw [Bt_size]; exact hz) ?_
  rw [Bt_size]
  exact h
theorem add_bt {m : List Nat} {u : Tok} {Q : Value → Shared → Prop} (hz : l.length + m.length ≤ 1000) (h : ∀ t tk, Q (.bytes (Bt (l ++ m)) t) { s with toks := tk }) : wpN w A (binaryOp .Add (.bytes (Bt l) t) (.bytes (Bt m) u)) Q s := by
  refine KBy.add_bytes (by rw [Bt_size, Bt_size]; (first | lia | omega)) fun t' k => ?_
  rw [Bt_app]
  exact h t' k
theorem picked_bt {lo hi : Option Int} {a k : Nat} (e : sliceBounds lo hi none l.length = ((a : Int), (k : Int), 1)) : KBy.picked (Bt l) lo hi = Bt ((l.drop a).take (k - a)) := by
  unfold KBy.picked Builtin.Bytes.sliced
  rw [Bt_size, e]
  dsimp only
  rw [sliceRange_one, pick_run]
  simp [Bt]
theorem getitem_bt {sl : Addr} {vl vu : Value} {lo hi : Option Int} {a k : Nat} {Q : Value → Shared → Prop} (hs : s.heap.IsSliceOf sl vl vu .none) (hl : IsPart vl lo) (hu : IsPart vu hi) (hz : l.length ≤ 1000)
    (e : sliceBounds lo hi none l.length = ((a : Int), (k : Int), 1)) (h : ∀ t tk, Q (.bytes (Bt ((l.drop a).take (k - a))) t) { s with toks := tk }) : wpN w A (getItem (.bytes (Bt l) t) (.ref sl)) Q s := by
  have hp := picked_bt (l := l) e
  have hT := typeIs_bytes s (Bt l) t
  by_cases hw : KBy.whole (Bt l) lo hi = false
  · refine getItem_meets hT (by decide) FB.slot_bytes_getitem FB.entry_bytes_getitem (FB.args_bytes_getitem_2 _ _) (KBy.meets_slice (Bt l) t sl hl hu hw) ⟨hs, ?_, ?_⟩
    · rw [hp, Bt_size, sizeLine]; simp; (first | lia | omega)
    · rw [hp]; exact h _ _
  · rw [Bool.not_eq_false] at hw
    have hw' := hw
    unfold KBy.whole at hw'
    rw [Bt_size, e] at hw'
    simp only [Bool.and_eq_true, beq_iff_eq] at hw'
    have ea : a = 0 := by (first | lia | omega)
    have ek : k = l.length := by (first | lia | omega)
    subst ea ek
    rw [List.drop_zero, Nat.sub_zero, List.take_length] at h
    obtain ⟨o, ho, hc, hd⟩ := hs
    have hTs : s.TypeIs (.ref sl) "slice" := ⟨o, ho, hc⟩
    refine wpAny_getItem_slot hT (by decide) FB.slot_bytes_getitem (wpAny_call_entry FB.slot_bytes_getitem hT FB.entry_bytes_getitem ?_ (FB.args_bytes_getitem_2 _ _))
    show wpAny _ _ (Builtin.Bytes.payload (.bytes (Bt l) t) >>= fun r => _) _ _ s
    refine wpAny_bind (wpAny_of_eq (a := Bt l) rfl ?_)
    show wpAny _ _ (Builtin.Bytes.subscript? (.ref sl) >>= fun r => _) _ _ s
    refine wpAny_bind ?_
    unfold Builtin.Bytes.subscript?
    refine wpAny_bind (wpAny_specialOf hTs slice_no_index (wpAny_pure ?_))
    refine wpAny_bind (wpAny_typeOf hTs ?_)
    show wpAny _ _ (Builtin.Bytes.sliceParts (.ref sl) >>= fun r => _) _ _ s
    refine wpAny_bind ?_
    unfold Builtin.Bytes.sliceParts
    refine wpAny_bind (wpAny_field (x := .none) ho hd rfl ?_)
    kby_none
    refine wpAny_ite (KBy.ite_no (show ¬ ((Value.none == rawInt 0) = true) from Bool.false_ne_true) ?_)
    refine wpAny_bind (wpAny_field (x := vl) ho hd rfl ?_)
    have go : wpAny (model pr w) A.in1 (sliceIndices (rawPart lo) (rawPart hi) (rawPart none) (Bt l).size) (fun r s' => r = sliceBounds lo hi none (Bt l).size ∧ s' = s) (fun _ _ => False) s :=
      wpAny_of_eq (sliceIndices_raw lo hi none (Bt l).size (fun e => nomatch e)) ⟨rfl, rfl⟩
    cases hl <;> cases hu <;> (first
      | (kby_none; (refine wpAny_bind (wpAny_field (x := .none) ho hd rfl ?_)); kby_none)
      | (kby_none; (refine wpAny_bind (wpAny_field (x := .int _ _) ho hd rfl ?_)); kby_int)
      | (kby_int; (refine wpAny_bind (wpAny_field (x := .none) ho hd rfl ?_)); kby_none)
      | (kby_int; (refine wpAny_bind (wpAny_field (x := .int _ _) ho hd rfl ?_)); kby_int)) <;> refine wpAny_pure ?_
    all_goals
      refine wpAny_bind (wpAny_mono go (fun r s' hr => ?_) fun _ _ e => e.elim)
      obtain ⟨hr1, hr2⟩ := hr
      subst hr1 hr2
      rw [Bt_size, e]
      dsimp only
      rw [if_pos (by simpa using hw'.2)]
      refine wpAny_bind (wpAny_typeOf (typeIs_bytes _ (Bt l) t) ?_)
      rw [if_pos (by decide)]
      exact wpAny_bind (wpAny_rule (wpAny_pure ⟨_, rfl, h t _⟩))
/-- a slice of octets -/
theorem slice_bt {value : Expr} {lower upper : Option Expr} {p pos : Pos} {Q : Value → Shared → Prop}
    (h : wpN w A (eval value env) (fun o s₁ => wpN w A (evalPart lower env) (fun vl s₂ => wpN w A (evalPart upper env) (fun vu s₃ =>
      ∃ l t lo hi a k, o = .bytes (Bt l) t ∧ l.length ≤ 1000 ∧ IsPart vl lo ∧ IsPart vu hi ∧ sliceBounds lo hi none l.length = (((a : Nat) : Int), ((k : Nat) : Int), 1) ∧
        ∀ t' s', (∀ b o, s₃.heap.get? b = some o → s'.heap.get? b = some o) → Go [] s₃ s' → Q (.bytes (Bt ((l.drop a).take (k - a))) t') s') s₂) s₁) s)
    (ht : ∀ o r, letTemporaryGo value o r = pure ()) : wpN w A (eval (.Subscript value (.Slice lower upper none p) pos) env) Q s := by
  refine wpAny_Subscript_Slice (T := "bytes") FB.slot_bytes_getitem.lookup (wpAny_mono h (fun o s₁ h₁ => wpAny_Slice (wpAny_mono h₁ (fun vl s₂ h₂ => wpAny_mono h₂ (fun vu s₃ h₃ => ?_) fun _ _ z => z) fun _ _ z => z)) fun _ _ z => z) ht
  obtain ⟨l, t, lo, hi, a, k, rfl, hz, p1, p2, e, hQ⟩ := h₃
  rw [evalPart_none]
  refine wpAny_pure ⟨typeIs_bytes _ _ _, getitem_bt (Heap.IsSliceOf.new ..) p1 p2 hz e fun t' tk => ?_⟩
  have k : ∀ b o, s₃.heap.get? b = some o → (s₃.heap.push { cls := .type "slice", data := .fields #[vl, vu, .none] }).get? b = some o := fun b o e => Heap.get?_push_of_some _ e
  exact hQ t' _ k ((Go.of_keeps (tk := tk) k))
theorem sb_to {k n : Nat} (hk : k ≤ n) : sliceBounds none (some (k : Int)) none n = (((0 : Nat) : Int), (k : Int), 1) := by
  unfold sliceBounds
  have h1 : ¬ ((k : Int) < 0) := by (first | lia | omega)
  simp only [Option.getD_none, show (1 : Int) > 0 by decide, if_true, h1, if_false]
  congr 2
  (first | lia | omega)
theorem sb_fromto {a k n : Nat} (ha : a ≤ n) (hk : k ≤ n) : sliceBounds (some (a : Int)) (some (k : Int)) none n = ((a : Int), (k : Int), 1) := by
  unfold sliceBounds
  have h1 : ¬ ((k : Int) < 0) := by (first | lia | omega)
  have h2 : ¬ ((a : Int) < 0) := by (first | lia | omega)
  simp only [Option.getD_none, show (1 : Int) > 0 by decide, if_true, h1, h2, if_false]
  congr 1
  · (first | lia | omega)
  · congr 1
    (first | lia | omega)
theorem Ints.are : ∀ {vs : List Value} {ws : List Int}, Ints vs ws → IntsAre vs ws
  | [], [], _ => .nil
  | [], _ :: _, h => by cases h
  | _ :: _, [], h => by cases h
  | v :: vs, k :: ws, h => by
    unfold Ints at h
    rw [List.map_cons, List.map_cons] at h
    obtain ⟨h1, h2⟩ := List.cons.inj h
    obtain ⟨t, rfl⟩ := iv_some h1
    exact .cons _ _ (Ints.are h2)
/-- bytes([..]) -/
theorem bytes_bt {a : Addr} {vs : List Value} {Q : Value → Shared → Prop} (hh : A.handled = none) (hl : Ls s.heap a vs) (hi : Ints vs (l.map fun (n : Nat) => (n : Int))) (hb : ∀ k ∈ l, k < 256) (hz : l.length ≤ 1000)
    (h : ∀ t s', (∀ b o, s.heap.get? b = some o → s'.heap.get? b = some o) → Go [] s s' → Q (.bytes (Bt l) t) s') : wpN w A (call (.type "bytes") [.ref a]) Q s := by
  have hi' : IntsAre vs (l.map fun (n : Nat) => (n : Int)) := hi.are
  have e : byteArr (l.map fun (n : Nat) => (n : Int)) = Bt l := by
    unfold byteArr Bt
    simp
  refine call_bytes_ints hl.isList hi' (fun n hn => ?_) (by rw [hi.len, sizeLine]; simp; (first | lia | omega)) hh fun h' t k hk => ?_
  · obtain ⟨m, hm, rfl⟩ := List.mem_map.mp hn
    have := hb m hm
    (first | lia | omega)
  · rw [e]
    exact h t _ hk (.of_keeps hk)
theorem sub_bb : isSubtype (.type "bytes") (.type "bytes") = pure true := by rw [isSubtype_type]; kernel_rfl
theorem extend_bt {R : Result → Shared → Prop} (hh : A.handled = none) (x : Array UInt8) (t : Tok) (S : Addr) (res : Value) (c₀ : Nat) (hS : s.heap.get? S = some { cls := .type "list", data := .seq #[] c₀ })
    (hR : ∀ h' tk acc' c', (∀ b o, b ≠ S → s.heap.get? b = some o → h'.get? b = some o) → h'.get? S = some { cls := .type "list", dict := none, data := .seq acc' c', slots := #[] } →
      ItemsOf (fun i v => ∃ c u, x[i]? = some c ∧ v = .int (c.toNat : Int) u) acc' x.size → R (.ok (.ret res)) { s with heap := h', toks := tk }) (hn : x.size ≤ sizeLine) :
    wpAny (model pr w) A.in1 (Builtin.List.listExtendWith (.ref S) (.bytes x t) res)
      (fun fin s' => match fin with | .done f => R (.ok f) s' | .again c' => c'.quiet = true ∧ codeAny (model pr w) A c' R s') (fun e s' => R (.error e) s') s := by
  have hSI : S ≠ s.heap.objs.size := Nat.ne_of_lt (Heap.lt_size hS)
  have hSf : S ∉ [s.heap.objs.size] := fun hm => hSI (List.mem_singleton.mp hm)
  unfold Builtin.List.listExtendWith
  refine wpAny_bind (wpAny_typeOf (typeIs_bytes s x t) ?_)
  have h1 : Builtin.List.listSameRef (.ref S) (.bytes x t) = false := rfl
  have h2 : (Value.type "bytes" == Value.type "list") = false := by decide
  have h3 : (Value.type "bytes" == Value.type "tuple") = false := by decide
  simp only [h1, h2, h3, Bool.or_false, Bool.false_eq_true, if_false]
  refine wpAny_bind (KBw.pyIter_bytes ?_)
  have hk : ∀ b o, s.heap.get? b = some o → (s.heap.push { cls := .type "bytes_iterator", data := .fields #[.bytes x t, .int 0 0] }).get? b = some o := fun b o e => Heap.get?_push_of_some _ e
  refine wpAny_bind (wpAny_holding ?_)
  unfold Builtin.List.listLengthHint
  refine wpAny_bind (wpAny_specialOf (typeIs_bytes _ x t) FB.slot_bytes_len.lookup ?_)
  wp_delta
  refine wpAny_bind (wpAny_isInstance (b := true) (typeIs_bytes _ x t) (by rw [isSubtype_type]; kernel_rfl) ?_)
  show wpAny _ _ (typeOf (Value.bytes x t) >>= _) _ _ _
  refine wpAny_bind (wpAny_typeOf (typeIs_bytes _ x t) ?_)
  refine wpAny_pure ?_
  rw [if_neg (by decide)]
  refine wpAny_pure ⟨plainId_quiet F.plain_extend_loop _, codeAny_extend_loopS (KBw.walks (A := A.in1) hh s.heap.objs.size x t).toS hn _ hSf _ x.size 0 _ _ _ rfl (Nat.zero_le _) ⟨_, Heap.get?_push_size _ rfl, rfl, rfl⟩ (Heap.get?_push_of_some _ hS) (ItemsOf.nil _) fun s' acc' c' hm hS' hacc => ?_⟩
  rw [Moved.eq_with hm]
  refine hR s'.heap s'.toks acc' c' (fun b ob hb e => hm.heap b ob (fun hmem => ?_) (Heap.get?_push_of_some _ e)) hS' hacc
  rcases List.mem_cons.mp hmem with e' | hmem
  · exact hb e'
  · exact absurd (Heap.lt_size e) (by rw [List.mem_singleton.mp hmem]; exact Nat.lt_irrefl _)
theorem init_bt {R : Result → Shared → Prop} (hh : A.handled = none) (x : Array UInt8) (t : Tok) (S : Addr) (hS : s.heap.get? S = some { cls := .type "list", data := .seq #[] })
    (hR : ∀ h' tk acc' c', (∀ b o, b ≠ S → s.heap.get? b = some o → h'.get? b = some o) → h'.get? S = some { cls := .type "list", dict := none, data := .seq acc' c', slots := #[] } →
      ItemsOf (fun i v => ∃ c u, x[i]? = some c ∧ v = .int (c.toNat : Int) u) acc' x.size → R (.ok (.ret .none)) { s with heap := h', toks := tk }) (hn : x.size ≤ sizeLine) :
    wpAny (model pr w) A.in1 (Builtin.«list.__init__» ⟨[.ref S, .bytes x t], []⟩)
      (fun fin s' => match fin with | .done f => R (.ok f) s' | .again c' => c'.quiet = true ∧ codeAny (model pr w) A c' R s') (fun e s' => R (.error e) s') s := by
  show wpAny _ _ (do let old ← Builtin.List.listItems (.ref S); Builtin.List.listUpdate (.ref S) (fun _ => #[]); letGo old.toList.reverse; Builtin.List.listExtendWith (.ref S) (.bytes x t) .none) _ _ s
  refine wpAny_bind ?_
  unfold Builtin.List.listItems
  refine wpAny_bind (wpAny_seqItems hS rfl (wpAny_pure ?_))
  show wpAny _ _ (updateSeq S (fun _ => #[]) >>= fun _ => letGo (#[] : Array Value).toList.reverse >>= fun _ => Builtin.List.listExtendWith (.ref S) (.bytes x t) .none) _ _ s
  refine wpAny_bind (wpAny_updateSeq hS rfl ?_)
  have hS₂ := Heap.get?_update_self (Obj.mapSeq (fun _ => (#[] : Array Value))) hS rfl
  have oth : ∀ b o, b ≠ S → s.heap.get? b = some o → (s.heap.update S (Obj.mapSeq (fun _ => (#[] : Array Value)))).get? b = some o :=
    fun b o hb e => (Heap.get?_update_other _ _ (Ne.symm hb)).trans e
  refine wpAny_bind (wpAny_letGo ?_)
  refine extend_bt (hn := hn) hh x t S .none _ hS₂ fun h' tk acc' c' hk hS' hacc => ?_
  exact hR h' tk acc' c' (fun b o hb e => hk b o hb (oth b o hb e)) hS' hacc
/-- list(octets) -/
theorem list_bt {Q : Value → Shared → Prop} (hh : A.handled = none) (hz : l.length ≤ 1000) (hb : ∀ k ∈ l, k < 256)
    (hQ : ∀ (a : Nat) vs s', Ls s'.heap a vs → Ints vs (l.map fun (n : Nat) => (n : Int)) → s.heap.objs.size ≤ a → Go [] s s' → Q (.ref a) s') : wpN w A (call (.type "list") [.bytes (Bt l) t]) Q s := by
  refine callType_codes (Q₁ := fun obj s₁ => obj = .ref s.heap.objs.size ∧ s₁ = { s with heap := s.heap.push { cls := .type "list", data := .seq #[] } }) F.called_list (F.typeCall_list_1 _) F.entry_list_init
    (code_list_new _ ⟨rfl, rfl⟩) fun obj s₁ h₁ => ?_
  obtain ⟨rfl, rfl⟩ := h₁
  have hS : (s.heap.push { cls := .type "list", data := .seq #[] }).get? s.heap.objs.size = some { cls := .type "list", data := .seq #[] } := Heap.get?_push_size _ rfl
  refine ⟨⟨_, hS, rfl⟩, F.args_list_init_2 _ _, init_bt (A := A.in1) (hn := by rw [Bt_size, sizeLine]; (first | lia | omega)) hh (Bt l) t _ hS fun h' tk acc' c' hk hS' hacc => ?_⟩
  have kk : ∀ b o, s.heap.get? b = some o → h'.get? b = some o := fun b o e => hk b o (Nat.ne_of_lt (Heap.lt_size e)) (Heap.get?_push_of_some _ e)
  refine ⟨rfl, hQ _ acc'.toList _ ⟨c', by rw [Array.toArray_toList]; exact hS'⟩ ?_ (Nat.le_refl _) (Go.of_keeps kk)⟩
  obtain ⟨h1, h2⟩ := hacc
  rw [Bt_size] at h1
  unfold Ints
  apply List.ext_getElem
  · simp [h1]
  · intro i g1 g2
    simp only [List.length_map, Array.length_toList] at g1 g2
    obtain ⟨c, u, e1, e2⟩ := h2 i acc'[i] (by simp [g1])
    simp only [List.getElem_map, Array.getElem_toList, e2, iv]
    have e3 : (Bt l)[i]? = some (l[i].toUInt8) := by
      unfold Bt
      rw [List.getElem?_toArray, List.getElem?_map, List.getElem?_eq_getElem g2]
      rfl
    rw [e3] at e1
    cases e1
    rw [u8_nat (hb _ (List.getElem_mem g2))]
/-- what a swap of one word, or of none, gives -/
theorem swp_one {m : List Nat} {b' : Array UInt8} (S : Swp (Bt m) b' m.length 1 1 0) : b' = Bt m.reverse := by
  obtain ⟨h1, h2⟩ := S
  rw [Bt_size] at h1
  apply Array.ext'
  apply List.ext_getElem?
  intro i
  by_cases hi : i < m.length
  · have := h2 0 i (by (first | lia | omega)) hi (.inl (by (first | lia | omega)))
    rw [Nat.zero_mul, Nat.zero_add, Nat.zero_add] at this
    rw [Array.getElem?_toList, this]
    unfold Bt
    rw [List.getElem?_toArray, List.getElem?_map, List.getElem?_map, List.getElem?_reverse hi]
  · rw [List.getElem?_eq_none (by simp [h1]; (first | lia | omega)), List.getElem?_eq_none (by simp [Bt]; (first | lia | omega))]
theorem swp_none {b' : Array UInt8} {wd q : Nat} (S : Swp (Bt []) b' wd q q 0) : b' = Bt [] := by
  have := S.1
  rw [Bt_size] at this
  exact Array.eq_empty_of_size_eq_zero this
/-- _byteswap of one word -/
theorem swap_bt {u : Tok} {Q : Value → Shared → Prop} {wd : Nat} (c : Cx w s.heap) (r : Rm 3 A) (hz : l.length ≤ 100) (hw : wd = max 1 l.length)
    (h : ∀ t s', Go [] s s' → Q (.bytes (Bt l.reverse) t) s') : wpD w A (PySem.call (.ref 28) [.bytes (Bt l) t, .int wd u]) Q s := by
  cases l with
  | nil =>
    simp at hw
    subst hw
    refine byteswap (q := 0) c r (by (first | lia | omega)) (by rw [Bt_size]; simp) (by rw [Bt_size]; simp) (by (first | lia | omega)) fun b' tk s' S G => ?_
    rw [swp_none S]
    exact h tk s' G
  | cons x m =>
    obtain rfl : wd = (x :: m).length := by simp at hw ⊢; (first | lia | omega)
    refine byteswap (q := 1) c r (by simp) (by rw [Bt_size]; simp) (by rw [Bt_size]; (first | lia | omega)) (by (first | lia | omega)) fun b' tk s' S G => ?_
    rw [swp_one S]
    exact h tk s' G
end
end Mine
end

/-! Lt -/
section
open PySem PySem.W PySem.W.X PyProof.Rows PySem.Calls
open Sem (wp)
set_option Elab.async false
set_option maxRecDepth 100000
set_option maxHeartbeats 1000000
namespace Mine
section
variable {w : World} {A : Around} {s : Shared} {env : Env}
/-- e[c] -/
theorem sub_const {value : Expr} {c : Const} {kd : Nat} {p : Pos} {pos : Pos} {Q : Value → Shared → Prop}
    (h : wpN w A (eval value env) (fun o s₁ => wpN w A (eval (.Constant c kd p) env) (fun i s₂ => SubscriptOn (model pr w) A o i Q No s₂) s₁) s) :
    wpN w A (eval (.Subscript value (.Constant c kd p) pos) env) Q s := by
  rw [eval_Subscript]
  refine wpAny_bind (wpAny_mono h (fun o s₁ h₁ => wpAny_bind (wpAny_holding (wpAny_mono h₁ (fun i s₂ h₂ => wpAny_bind (wpAny_standAt ?_)) fun _ _ x => x))) fun _ _ x => x)
  obtain ⟨T, id, hl, hT, hg⟩ := h₂
  refine wpAny_bind ?_
  rw [getitemInPython_of_ne hT.not_modules]
  refine wpAny_bind (wpAny_specialOf hT hl ?_)
  have fin : wpAny (model pr w) A (operate [o, i] (getItem o i)) (fun r s₃ => wpAny (model pr w) A (letTemporaryGo value o r >>= fun _ => pure r) Q No s₃) No s₂ :=
    wpAny_operating (wpAny_mono hg (fun r s₃ h₃ => wpAny_bind (wpAny_letTemporaryGo (wpAny_pure h₃))) fun _ _ x => x)
  first
    | exact wpAny_pure (wpAny_bind fin)
    | exact wpAny_bind (wpAny_pure (wpAny_bind fin))
    | exact wpAny_bind fin
/-- e[-c] -/
theorem sub_un {value e : Expr} {op : UnaryOp} {p : Pos} {pos : Pos} {Q : Value → Shared → Prop}
    (h : wpN w A (eval value env) (fun o s₁ => wpN w A (eval (.UnaryOp op e p) env) (fun i s₂ => SubscriptOn (model pr w) A o i Q No s₂) s₁) s) :
    wpN w A (eval (.Subscript value (.UnaryOp op e p) pos) env) Q s := by
  rw [eval_Subscript]
  refine wpAny_bind (wpAny_mono h (fun o s₁ h₁ => wpAny_bind (wpAny_holding (wpAny_mono h₁ (fun i s₂ h₂ => wpAny_bind (wpAny_standAt ?_)) fun _ _ x => x))) fun _ _ x => x)
  obtain ⟨T, id, hl, hT, hg⟩ := h₂
  refine wpAny_bind ?_
  rw [getitemInPython_of_ne hT.not_modules]
  refine wpAny_bind (wpAny_specialOf hT hl ?_)
  have fin : wpAny (model pr w) A (operate [o, i] (getItem o i)) (fun r s₃ => wpAny (model pr w) A (letTemporaryGo value o r >>= fun _ => pure r) Q No s₃) No s₂ :=
    wpAny_operating (wpAny_mono hg (fun r s₃ h₃ => wpAny_bind (wpAny_letTemporaryGo (wpAny_pure h₃))) fun _ _ x => x)
  first
    | exact wpAny_pure (wpAny_bind fin)
    | exact wpAny_bind (wpAny_pure (wpAny_bind fin))
    | exact wpAny_bind fin
theorem sub_ls {a : Addr} {vs : List Value} {k : Nat} {u : Tok} {v : Value} {Q : Value → Shared → Prop} (hl : Ls s.heap a vs) (hk : k ≤ 1000) (hv : vs[k]? = some v) (h : Q v s) : SubscriptOn (model pr w) A (.ref a) (.int k u) Q No s :=
  ⟨"list", _, slot_list_getitem.lookup, hl.isList.typeIs, wpAny_getItem_list hl.isList (by (first | lia | omega)) (by (first | lia | omega)) (by simpa using hv) h⟩
theorem fits_m1 : Builtin.List.listFitsIndex (-1) = true := by decide
theorem sub_last {a : Addr} {vs : List Value} {u : Tok} {v : Value} {Q : Value → Shared → Prop} (hl : Ls s.heap a (vs ++ [v])) (h : Q v s) : SubscriptOn (model pr w) A (.ref a) (.int (-1) u) Q No s := by
  refine ⟨"list", _, slot_list_getitem.lookup, hl.isList.typeIs, ?_⟩
  have hL := hl.isList
  obtain ⟨n, ho⟩ := hl
  refine wpAny_getItem_slot hL.typeIs (by decide) slot_list_getitem (wpAny_call_entry slot_list_getitem hL.typeIs entry_list_getitem ?_ (args_list_getitem _ _))
  show wpAny _ _ (Builtin.List.listSubscript? (.int (-1) u) >>= _) _ _ s
  refine wpAny_bind (wpAny_listSubscript_int fits_m1 ?_)
  show wpAny _ _ ((Builtin.List.listItems (.ref a) >>= fun xs => pure ((seqIndex? (-1) xs.size).bind fun j => xs[j]?.map (j, ·))) >>= _) _ _ s
  unfold Builtin.List.listItems
  refine wpAny_bind (wpAny_bind (wpAny_bind (wpAny_seqItems ho rfl (wpAny_pure (wpAny_pure ?_)))))
  rw [List.size_toArray, List.length_append, List.length_singleton, seqIndex_last, Option.bind_some]
  have : ((vs ++ [v]).toArray)[vs.length]? = some v := by simp
  rw [this]
  exact wpAny_pure ⟨v, rfl, h⟩
theorem uminus {e : Expr} {pos : Pos} {k : Int} {t : Tok} {Q : Value → Shared → Prop} (h : wpN w A (eval e env) (fun v s₁ => ∃ k t, v = .int k t ∧ ∀ t', Q (.int (-k) t') { s₁ with toks := s₁.toks + 1 }) s) : wpN w A (eval (.UnaryOp .USub e pos) env) Q s := by
  refine wpAny_UnaryOp (wpAny_mono h (fun v s₁ h₁ => ?_) fun _ _ z => z)
  obtain ⟨k, t, rfl, h₁⟩ := h₁
  exact neg_int (h₁ _)
/-- list + list -/
theorem add_ls {a b : Addr} {vs us : List Value} {Q : Value → Shared → Prop} (hl : Ls s.heap a vs) (hb : Ls s.heap b us) (hz : vs.length + us.length ≤ 1000)
    (h : ∀ (c : Nat) s', c = s.heap.objs.size → Ls s'.heap c (vs ++ us) → (∀ y o, s.heap.get? y = some o → s'.heap.get? y = some o) → Go [] s s' → Q (.ref c) s') : wpN w A (binaryOp .Add (.ref a) (.ref b)) Q s := by
  obtain ⟨n, ho⟩ := hl
  obtain ⟨n2, ho2⟩ := hb
  have e : vs.toArray ++ us.toArray = (vs ++ us).toArray := by simp
  refine concat_meets ⟨_, ho, rfl⟩ ⟨_, ho2, rfl⟩ noFill_list_add seq_list_add PySem.F.slot_list_add PySem.F.entry_list_add (PySem.F.args_list_add_2 _ _) (list_addW a b vs.toArray us.toArray n n2 none none #[] #[] (by simp [sizeLine]; (first | lia | omega))) ⟨ho, ho2, ?_⟩
  rw [e]
  have k : ∀ y o, s.heap.get? y = some o → (s.heap.push { cls := .type "list", data := .seq (vs ++ us).toArray }).get? y = some o := fun y o e => Heap.get?_push_of_some _ e
  exact h _ { s with heap := s.heap.push { cls := .type "list", data := .seq (vs ++ us).toArray } } rfl ⟨_, Heap.get?_push_size _ rfl⟩ k (.of_keeps k)
/-- e[::-1] -/
theorem rev_ls {value st : Expr} {p pos : Pos} {Q : Value → Shared → Prop}
    (h : wpN w A (eval value env) (fun o s₁ => wpN w A (eval st env) (fun vt s₂ => ∃ a vs t, o = .ref a ∧ vt = .int (-1) t ∧ Ls s₂.heap a vs ∧ vs.length ≤ 1000 ∧
      ∀ (c : Nat) s', s₂.heap.objs.size ≤ c → Ls s'.heap c vs.reverse → (∀ y o, s₂.heap.get? y = some o → s'.heap.get? y = some o) → Go [] s₂ s' → Q (.ref c) s') s₁) s)
    (ht : ∀ o r, letTemporaryGo value o r = pure ()) : wpN w A (eval (.Subscript value (.Slice none none (some st) p) pos) env) Q s := by
  refine wpAny_Subscript_Slice_step (T := "list") slot_list_getitem.lookup (wpAny_mono h (fun o s₁ h₁ => wpAny_Slice ?_) fun _ _ z => z) ht
  rw [evalPart_none]
  refine wpAny_pure (wpAny_pure ?_)
  rw [evalPart_some]
  refine wpAny_mono h₁ (fun vt s₂ h₂ => ?_) fun _ _ z => z
  obtain ⟨a, vs, t, rfl, rfl, hL, hz, hQ⟩ := h₂
  have k1 : ∀ y o, s₂.heap.get? y = some o → (s₂.heap.push { cls := .type "slice", data := .fields #[.none, .none, .int (-1) t] }).get? y = some o := fun y o e => Heap.get?_push_of_some _ e
  have hL' := hL.keeps (k1 a)
  refine ⟨hL'.isList.typeIs, wpAny_getItem_list_slice hL'.isList (Heap.IsSliceOf.new ..) .none .none (.int (-1) t) (by decide) ?_ (by simp [sizeLine]; (first | lia | omega))⟩
  rw [krv_pick]
  have k2 : ∀ y o, s₂.heap.get? y = some o → ((s₂.heap.push { cls := .type "slice", data := .fields #[.none, .none, .int (-1) t] }).push { cls := .type "list", data := .seq vs.toArray.toList.reverse.toArray }).get? y = some o := fun y o e => Heap.get?_push_of_some _ (k1 y o e)
  refine hQ _ _ ?_ ⟨_, Heap.get?_push_size _ rfl⟩ k2 (.of_keeps k2)
  rw [Heap.size_push]
  exact Nat.le_succ _
/-- two lists of ints that are alike -/
theorem ne_ints {a b : Addr} {vs us : List Value} {ws : List Int} {Q : Value → Shared → Prop} (hu : A.units < cLine) (hl : Ls s.heap a vs) (hb : Ls s.heap b us) (hi : Ints vs ws) (hj : Ints us ws) (h : Q (.bool false) s) : wpN w A (compareOp .NotEq (.ref a) (.ref b)) Q s := by
  have h1 := hi.len
  have h2 := hj.len
  refine SeqAt.RcNeAt.lists (e := fun _ => true) hl.isList hb.isList (by simp [h1, h2]) hu (fun j g1 g2 => ?_) pr w No Q ?_
  · simp only [List.size_toArray] at g1 g2
    obtain ⟨t, e1⟩ := hi.at (List.getElem?_eq_getElem g1)
    obtain ⟨u, e2⟩ := hj.at (List.getElem?_eq_getElem g2)
    rw [List.getElem_toArray, List.getElem_toArray, e1, e2]
    have := SeqAt.EqAt.int_int (A := A.in1) (s := s) (ws.getD j 0) t (ws.getD j 0) u
    rwa [beq_self_eq_true] at this
  · have : (!(List.range vs.toArray.size).all fun _ => true) = false := by simp
    rw [this]
    exact h
/-- x.append(e) of a list -/
theorem app_e {v : Str} {e : Expr} {p apos pos : Pos} {a : Nat} {vs : List Value} {Q : Value → Shared → Prop} {pl : Sem Bool}
    (he : eval (.Call (.Attribute (.Name v p) "append" apos) [e] [] pos) env = (do
      let ov ← attributeBase (.Name v p) "append" env (eval (.Name v p) env)
      standAt apos.atName
      let (f, first) ← holding [ov] (getMethod ov "append" pl)
      callWith pos f first (backTo pos (starEach [e] env)) []))
    (hb : attributeBase (.Name v p) "append" env (eval (.Name v p) env) = eval (.Name v p) env)
    (hv : ∀ {Q : Value → Shared → Prop}, Q (.ref a) s → wpN w A (eval (.Name v p) env) Q s) (hs : starEach [e] env = (false, eval e env) :: starEach [] env) (hs2 : backTo pos (starEach [e] env) = [(false, eval e env)]) (hL : Ls s.heap a vs) (hz : vs.length ≤ 1000)
    (h : wpN w A (eval e env) (fun u s₁ => Ls s₁.heap a vs ∧ ∀ h', Ls h' a (vs ++ [u]) → Heap.SameBut a s₁.heap h' → Q .none { s₁ with heap := h' }) s) : wpN w A (eval (.Call (.Attribute (.Name v p) "append" apos) [e] [] pos) env) Q s := by
  refine metN he hb (hv (getMethod_builtin hL.isList.typeIs F.plainAttrs_list slot_list_append (by kernel_rfl) (fun a' ha => ?_) (callM rfl hs rfl (sp1 hs2 (wpAny_mono h (fun u s₁ h₁ => ls_append h₁.1 hz h₁.2) fun _ _ z => z)))))
  cases ha
  obtain ⟨n, ho⟩ := hL
  exact ⟨_, ho, rfl⟩
end
end Mine
end

/-! Gw -/
section
/-! the joining of neighbours, in plain words -/
set_option maxRecDepth 100000
namespace Mine
def atF : List Nat → Nat
  | a :: b :: c :: t => if a > c then atF (b :: c :: t) + 1 else 0
  | _ => 0
def lowF (r : List Nat) (t : Nat) : Nat → Nat
  | 0 => 0
  | k + 1 => if r.getD k 0 < t then lowF r t k else k + 1
def gstep (ps : List (List Nat)) : List Nat × List (List Nat) :=
  let r := ps.map List.length
  let a := atF r
  let t := r.getD a 0 + r.getD (a + 1) 0
  let lo := lowF r t a
  let j := ps.getD a [] ++ ps.getD (a + 1) []
  (j, ps.take lo ++ [j] ++ (ps.take a).drop lo ++ ps.drop (a + 2))
def gw : Nat → List (List Nat) → List (List Nat)
  | 0, _ => []
  | n + 1, ps => if ps.length ≤ 1 then [] else (gstep ps).1 :: gw n (gstep ps).2
theorem atF_lt : ∀ (r : List Nat), 2 ≤ r.length → atF r + 1 < r.length
  | [], h => by simp at h
  | [_], h => by simp at h
  | [_, _], _ => by simp [atF]
  | a :: b :: c :: t, _ => by
    unfold atF
    have := atF_lt (b :: c :: t) (by simp)
    split
    · simp only [List.length_cons] at *; (first | lia | omega)
    · simp
theorem atF_go {r : List Nat} {i : Nat} (h : i + 2 < r.length) (h2 : r.getD (i + 2) 0 < r.getD i 0) : atF (r.drop i) = atF (r.drop (i + 1)) + 1 := by
  have e0 : r.drop i = r[i] :: r[i+1] :: r[i+2] :: r.drop (i + 3) := by
    rw [List.drop_eq_getElem_cons (by (first | lia | omega)), List.drop_eq_getElem_cons (by (first | lia | omega)), List.drop_eq_getElem_cons (by (first | lia | omega))]
  have e1 : r.drop (i + 1) = r[i+1] :: r[i+2] :: r.drop (i + 3) := by
    rw [List.drop_eq_getElem_cons (by (first | lia | omega)), List.drop_eq_getElem_cons (by (first | lia | omega))]
  rw [List.getD_eq_getElem?_getD, List.getD_eq_getElem?_getD, List.getElem?_eq_getElem (by (first | lia | omega)), List.getElem?_eq_getElem (by (first | lia | omega))] at h2
  simp only [Option.getD_some] at h2
  rw [e0, e1, atF, if_pos h2]
theorem atF_stop {r : List Nat} {i : Nat} (h : ¬ (i + 2 < r.length ∧ r.getD (i + 2) 0 < r.getD i 0)) : atF (r.drop i) = 0 := by
  by_cases h1 : i + 2 < r.length
  · have h2 : ¬ r.getD (i + 2) 0 < r.getD i 0 := fun q => h ⟨h1, q⟩
    have e0 : r.drop i = r[i] :: r[i+1] :: r[i+2] :: r.drop (i + 3) := by
      rw [List.drop_eq_getElem_cons (by (first | lia | omega)), List.drop_eq_getElem_cons (by (first | lia | omega)), List.drop_eq_getElem_cons (by (first | lia | omega))]
    rw [List.getD_eq_getElem?_getD, List.getD_eq_getElem?_getD, List.getElem?_eq_getElem (by (first | lia | omega)), List.getElem?_eq_getElem (by (first | lia | omega))] at h2
    simp only [Option.getD_some] at h2
    rw [e0, atF, if_neg h2]
  · have h3 : (r.drop i).length ≤ 2 := by simp; (first | lia | omega)
    match hd : r.drop i, h3 with
    | [], _ => rfl
    | [_], _ => rfl
    | [_, _], _ => rfl
    | _ :: _ :: _ :: _, h3 => simp at h3
theorem lowF_le (r : List Nat) (t : Nat) : ∀ k, lowF r t k ≤ k
  | 0 => Nat.le_refl _
  | k + 1 => by
    unfold lowF
    have := lowF_le r t k
    split <;> (first | lia | omega)
theorem take_getD {ps : List (List Nat)} {a : Nat} (h : a + 1 < ps.length) : ps = ps.take a ++ [ps.getD a [], ps.getD (a + 1) []] ++ ps.drop (a + 2) := by
  have e : ps.drop a = ps.getD a [] :: ps.getD (a + 1) [] :: ps.drop (a + 2) := by
    rw [List.drop_eq_getElem_cons (by (first | lia | omega)), List.drop_eq_getElem_cons (by (first | lia | omega))]
    rw [List.getD_eq_getElem?_getD, List.getD_eq_getElem?_getD, List.getElem?_eq_getElem (by (first | lia | omega)), List.getElem?_eq_getElem (by (first | lia | omega))]
    rfl
  conv => lhs; rw [← List.take_append_drop a ps, e]
  simp
/-- the row behind a step -/
theorem gstep_row (ps : List (List Nat)) (a t lo : Nat) (ha : a = atF (ps.map List.length)) (ht : t = (ps.map List.length).getD a 0 + (ps.map List.length).getD (a + 1) 0) (hlo : lo = lowF (ps.map List.length) t a) (h2 : 2 ≤ ps.length) :
    (gstep ps).2.map List.length = (ps.map List.length).take lo ++ [t] ++ ((ps.map List.length).take a).drop lo ++ (ps.map List.length).drop (a + 2) := by
  subst ha ht hlo
  have := atF_lt (ps.map List.length) (by simpa using h2)
  unfold gstep
  simp only [List.map_append, List.map_cons, List.map_nil, List.map_take, List.map_drop, List.length_append]
  congr 4
  rw [List.length_map] at this
  congr 1
  all_goals
    rw [List.getD_eq_getElem?_getD, List.getD_eq_getElem?_getD, List.getElem?_map, List.getElem?_eq_getElem (by (first | lia | omega))]
    rfl
theorem gstep_len (ps : List (List Nat)) (h2 : 2 ≤ ps.length) : (gstep ps).2.length + 1 = ps.length := by
  have h1 := atF_lt (ps.map List.length) (by simpa using h2)
  rw [List.length_map] at h1
  have h3 := lowF_le (ps.map List.length) ((ps.map List.length).getD (atF (ps.map List.length)) 0 + (ps.map List.length).getD (atF (ps.map List.length) + 1) 0) (atF (ps.map List.length))
  unfold gstep
  simp only [List.length_append, List.length_take, List.length_drop, List.length_cons, List.length_nil]
  (first | lia | omega)
theorem sum_parts (l : List Nat) (lo a : Nat) (h : lo ≤ a) (h2 : a + 1 < l.length) : l.sum = (l.take lo).sum + (l.getD a 0 + l.getD (a + 1) 0) + ((l.take a).drop lo).sum + (l.drop (a + 2)).sum := by
  have e : l.drop a = l.getD a 0 :: l.getD (a + 1) 0 :: l.drop (a + 2) := by
    rw [List.drop_eq_getElem_cons (by (first | lia | omega)), List.drop_eq_getElem_cons (by (first | lia | omega))]
    rw [List.getD_eq_getElem?_getD, List.getD_eq_getElem?_getD, List.getElem?_eq_getElem (by (first | lia | omega)), List.getElem?_eq_getElem (by (first | lia | omega))]
    rfl
  have e1 : l.sum = (l.take a).sum + (l.drop a).sum := by
    conv => lhs; rw [← List.take_append_drop a l]
    rw [List.sum_append]
  have e2 : (l.take a).sum = (l.take lo).sum + ((l.take a).drop lo).sum := by
    conv => lhs; rw [← List.take_append_drop lo (l.take a)]
    rw [List.sum_append, List.take_take, Nat.min_eq_left h]
  rw [e1, e2, e]
  simp only [List.sum_cons]
  (first | lia | omega)
theorem gstep_sum (ps : List (List Nat)) (h2 : 2 ≤ ps.length) : ((gstep ps).2.map List.length).sum = (ps.map List.length).sum := by
  have h1 := atF_lt (ps.map List.length) (by simpa using h2)
  rw [gstep_row ps _ _ _ rfl rfl rfl h2]
  simp only [List.sum_append, List.sum_cons, List.sum_nil]
  rw [sum_parts (ps.map List.length) _ _ (lowF_le (ps.map List.length) ((ps.map List.length).getD (atF (ps.map List.length)) 0 + (ps.map List.length).getD (atF (ps.map List.length) + 1) 0) _) h1]
  (first | lia | omega)
end Mine
end

/-! Jc -/
section
open PySem PySem.W PySem.W.X PyProof.Rows PySem.Calls
open Sem (wp)
set_option Elab.async false
set_option maxRecDepth 100000
set_option maxHeartbeats 1000000
namespace Mine
def stkOf (ps : List (List Nat)) : List Pc := (ps.map fun p => ((0 : Nat), p)).reverse
def pz (p : List Nat) : Str × Str := pS (0, p)
theorem pcs_of (ps : List (List Nat)) : pcs (stkOf ps) = ps.map pz := by simp [pcs, stkOf, pz]
theorem stkOf_len (ps : List (List Nat)) : (stkOf ps).length = ps.length := by simp [stkOf]
theorem stkOf_snoc (ps : List (List Nat)) (p : List Nat) : stkOf (ps ++ [p]) = (0, p) :: stkOf ps := by simp [stkOf]
/-- a list of pieces -/
def Pl (h : Heap) (a : Addr) (ps : List (List Nat)) : Prop := ∃ vs, Ls h a vs ∧ Tps h vs.toArray (ps.map pz)
theorem Tps.drop {h : Heap} {xs : Array Value} {ps : List (Str × Str)} (t : Tps h xs ps) (k : Nat) : Tps h (xs.toList.drop k).toArray (ps.drop k) := by
  refine ⟨by simp [t.1], fun i p hp => ?_⟩
  rw [List.getElem?_drop] at hp
  obtain ⟨v, e1, e2⟩ := t.2 _ p hp
  refine ⟨v, ?_, e2⟩
  rw [List.getElem?_toArray, List.getElem?_drop, Array.getElem?_toList]
  exact e1
theorem Tps.take {h : Heap} {xs : Array Value} {ps : List (Str × Str)} (t : Tps h xs ps) (k : Nat) : Tps h (xs.toList.take k).toArray (ps.take k) := by
  refine ⟨by simp [t.1], fun i p hp => ?_⟩
  rw [List.getElem?_take] at hp
  split at hp
  · rename_i hk
    obtain ⟨v, e1, e2⟩ := t.2 _ p hp
    refine ⟨v, ?_, e2⟩
    rw [List.getElem?_toArray, List.getElem?_take, if_pos hk, Array.getElem?_toList]
    exact e1
  · cases hp
theorem Tps.app {h : Heap} {vs us : List Value} {ps qs : List (Str × Str)} (t : Tps h vs.toArray ps) (u : Tps h us.toArray qs) : Tps h (vs ++ us).toArray (ps ++ qs) := by
  have h1 := t.1
  have h2 := u.1
  simp only [List.size_toArray] at h1 h2
  refine ⟨by simp [h1, h2], fun i p hp => ?_⟩
  by_cases hi : i < ps.length
  · rw [List.getElem?_append_left hi] at hp
    obtain ⟨v, e1, e2⟩ := t.2 _ p hp
    refine ⟨v, ?_, e2⟩
    rw [List.getElem?_toArray] at e1 ⊢
    rw [List.getElem?_append_left (by (first | lia | omega))]
    exact e1
  · rw [List.getElem?_append_right (by (first | lia | omega))] at hp
    obtain ⟨v, e1, e2⟩ := u.2 _ p hp
    refine ⟨v, ?_, e2⟩
    rw [List.getElem?_toArray] at e1 ⊢
    rw [List.getElem?_append_right (by (first | lia | omega)), h1]
    exact e1
theorem Tps.rev {h : Heap} {vs : List Value} {ps : List (Str × Str)} (t : Tps h vs.toArray ps) : Tps h vs.reverse.toArray ps.reverse := by
  have h1 := t.1
  simp only [List.size_toArray] at h1
  refine ⟨by simp [h1], fun i p hp => ?_⟩
  have hi : i < ps.length := by
    obtain ⟨hi, _⟩ := List.getElem?_eq_some_iff.mp hp
    simpa using hi
  rw [List.getElem?_reverse hi] at hp
  obtain ⟨v, e1, e2⟩ := t.2 _ p hp
  refine ⟨v, ?_, e2⟩
  rw [List.getElem?_toArray] at e1 ⊢
  rw [List.getElem?_reverse (by (first | lia | omega)), h1]
  exact e1
theorem Tps.at {h : Heap} {vs : List Value} {ps : List (List Nat)} (t : Tps h vs.toArray (ps.map pz)) {k : Nat} (hk : k < ps.length) : ∃ v, vs[k]? = some v ∧ Tp h v (S []) (S (ps.getD k [])) := by
  obtain ⟨v, e1, e2⟩ := t.2 k (pz ps[k]) (by simp [hk])
  refine ⟨v, by simpa using e1, ?_⟩
  rw [List.getD_eq_getElem?_getD, List.getElem?_eq_getElem hk]
  exact e2
theorem Pl.kp {h h' : Heap} {a : Addr} {ps : List (List Nat)} (p : Pl h a ps) (hk : Kp h h') : Pl h' a ps := by
  obtain ⟨vs, l, t⟩ := p
  exact ⟨vs, l.kp hk, t.kp hk⟩
theorem Pl.go {s s' : Shared} {a : Addr} {ps : List (List Nat)} (p : Pl s.heap a ps) (ha : 135 ≤ a) (G : Go [] s s') : Pl s'.heap a ps := by
  obtain ⟨vs, l, t⟩ := p
  exact ⟨vs, l.go G ha, t.go G⟩
section
variable {w : World} {A : Around} {s : Shared} {env : Env} {x d : Nat} {ps : List (List Nat)}
theorem ldf {y : Str} {pos : Pos} {c : Addr} {v : Value} {Q : Value → Shared → Prop} (f : Fm env) (hv : s.heap.IsCell c (some v)) (hc : env.cells.lookup y = some c) (hl : env.kindOf y = some .free) (hd : (y == ("__debug__" : Str)) = false) (hn : (y == ("__classdict__" : Str)) = false) (h : Q v s) : wpN w A (eval (.Name y pos) env) Q s :=
  wpAny_Name (wpAny_loadName_free f.kind hl hc hv h hn) hd
theorem popfrom_stk {k : Nat} {t : Tok} {Q : Value → Shared → Prop} (c : Cx w s.heap) (r : Rm 1 A) (q : Stk s.heap x d (stkOf ps)) (hk : k ≤ ps.length) (hz : ps.length ≤ 100)
    (hQ : ∀ (l : Nat) s', s.heap.objs.size ≤ l → Pl s'.heap l (ps.drop k) → Stk s'.heap x d (stkOf (ps.take k)) → Go [x] s s' → Q (.ref l) s') : wpN w A (call (.ref 60) [.ref x, .int k t]) Q s := by
  obtain ⟨xs, ac, tp⟩ := q
  have hsz : xs.size = ps.length := by rw [tp.1, pcs_len, stkOf_len]
  rw [pcs_of] at tp
  refine popfrom_call c r ac (by (first | lia | omega)) (by (first | lia | omega)) fun l s' hl hL a' G => ?_
  have tp' := tp.goX ac G
  refine hQ l s' hl ⟨_, ⟨0, hL⟩, ?_⟩ ⟨_, a', ?_⟩ G
  · rw [List.map_drop]; exact tp'.drop k
  · rw [pcs_of, List.map_take]; exact tp'.take k
/-- [len(part) for blank, part in line] -/
theorem lens_e {p1 p2 p3 p4 p5 p6 p7 pos : Pos} {kt : Nat} {scope : Scope} {Q : Value → Shared → Prop} (f : Fm env) (c : Cx w s.heap) (r : A.handled = none) (q : Stk s.heap x d (stkOf ps)) (hz : ps.length ≤ 100) (hb : ∀ p ∈ ps, p.length ≤ 10000)
    (hclos : closureFor scope env = Pure.pure []) (hkind : scope.kind = .function) (hnames : (scope.names.all fun x => x.2 != .local || scope.names.lookup x.1 == some .local) = true)
    (h1 : (cEnv scope [] 0 env).kindOf "blank" = some .local) (h2 : (cEnv scope [] 0 env).kindOf "part" = some .local) (h3 : (cEnv scope [] 0 env).kindOf "len" = some .globalImplicit)
    (hv : ∀ {Q : Value → Shared → Prop}, Q (.ref x) s → wpN w A (eval (.Name "line" p7) env) Q s)
    (hQ : ∀ (a : Nat) vs s', Ls s'.heap a vs → Ints vs (ps.map fun p => (p.length : Int)) → s.heap.objs.size ≤ a → Go [] s s' → Q (.ref a) s') :
    wpN w A (eval (.ListComp (.Call (.Name "len" p1) [.Name "part" p2] [] p3) [⟨.Tuple [.Name "blank" p4, .Name "part" p5] kt p6, .Name "line" p7, [], 0⟩] scope pos) env) Q s := by
  obtain ⟨xs, ac, tp⟩ := id q
  have hsz : xs.size = ps.length := by rw [tp.1, pcs_len, stkOf_len]
  rw [pcs_of] at tp
  refine lcomp (cl := []) hclos hkind hnames (fun _ => rfl) (hv (acc_iter c ac ?_))
  have k1 : ∀ b o, s.heap.get? b = some o → (s.heap.push (liI x)).get? b = some o := fun b o e => Heap.get?_push_of_some _ e
  obtain ⟨n, ho⟩ := id ac.ob
  have hx : x < s.heap.objs.size := ltN ho
  have hz1 : (s.heap.push (liI x)).objs.size = s.heap.objs.size + 1 := Heap.size_push ..
  have hI : (s.heap.push (liI x)).IsListIter s.heap.objs.size x 0 := ⟨_, Heap.get?_push_size _ rfl, rfl, rfl⟩
  refine ⟨s.heap.objs.size, _, _, _, _, _, rfl, walks_sq r s.heap.objs.size x (neN (by (first | lia | omega))) xs, ⟨hI, ac.sq.keeps fun o e => k1 _ _ e⟩, by (first | lia | omega), ?_, fun aa C haa hC => ?_⟩
  · intro b hb'
    show b < (s.heap.push (liI x)).objs.size
    rw [hz1]
    simp only [List.mem_cons, List.not_mem_nil, or_false] at hb'
    rcases hb' with rfl | rfl
    · exact Nat.lt_succ_self _
    · exact Nat.lt_succ_of_lt hx
  have haa : (s.heap.push (liI x)).objs.size = aa := haa
  have hse : s.heap.objs.size < aa := by (first | lia | omega)
  refine ⟨fun i us s5 => Ints us ((ps.take i).map fun p => (p.length : Int)) ∧ Nl s5.heap C [] ∧ Go [] s s5, ?_, ?_, ?_, ?_, ?_⟩
  · rintro i us s5 h' tk ⟨u1, u2, u3⟩ hk
    refine ⟨u1, u2.keeps fun o e => hk _ _ (ni2 ⟨by (first | lia | omega), by (first | lia | omega)⟩) e, u3.ext hk ?_⟩
    intro b hb'
    simp only [List.mem_cons, List.not_mem_nil, or_false] at hb'
    rcases hb' with rfl | rfl
    · show @LE.le Nat _ _ _; (first | lia | omega)
    · exact Nat.le_refl _
  · rintro i v us s5 hi' hv5 hSt ⟨u1, u2, u3⟩ hLs
    have hip : i < ps.length := by (first | lia | omega)
    obtain ⟨v', e1, e2⟩ := (tp.go u3).2 i (pz ps[i]) (by simp [hip])
    rw [hv5] at e1
    cases e1
    have e2' := e2
    obtain ⟨t, ta, tb, rfl, lt, e3⟩ := e2'
    refine wpAny_letOwnedTupleGo_listiter hSt.1 ?_
    refine assign2 (env := cEnv scope [] C env) [("blank", .str (pz ps[i]).1 ta)] (l' := [("blank", .str (pz ps[i]).1 ta), ("part", .str (pz ps[i]).2 tb)]) r ⟨_, e3, rfl, _, rfl⟩ (fm_c f hkind) u2 h1 h2 (by kernel_rfl) (by rfl) fun h6 tk6 N6 hk6 => ?_
    refine wpAny_pure ?_
    rw [if_pos rfl]
    have G6 : Go [] s { s5 with heap := h6, toks := tk6 } := u3.ext (wr := [C]) (fun b o hb e => hk6 b o (fun q => hb (by simp [q, cEnv])) e) (by simp; (first | lia | omega))
    have c6 := G6.cx (by simp) c
    refine callB (fm_c f hkind) c6 h3 (b_len _) rfl rfl rfl (sp1 rfl ?_)
    refine ld (env := cEnv scope [] C env) (fm_c f hkind) N6 (v := .str (pz ps[i]).2 tb) (by rfl) h2 rfl ?_
    have hbl := hb _ (List.getElem_mem hip)
    have hln : (pz ps[i]).2.length = ps[i].length := S_len _
    refine len_s (by rw [hln]; (first | lia | omega)) fun t7 tk7 => ⟨⟨?_, ?_, G6.tok _⟩, ?_⟩
    · rw [List.take_add_one, List.getElem?_eq_getElem hip, hln]
      simp only [Option.toList_some, List.map_append, List.map_cons, List.map_nil]
      exact u1.snoc
    · exact N6.sub (by rfl)
    · intro b hb' o e
      refine hk6 b o ?_ e
      simp only [List.mem_cons, List.not_mem_nil, or_false] at hb'
      show b ≠ C
      rcases hb' with rfl | rfl | rfl
      · exact neN (by (first | lia | omega))
      · exact neN (by (first | lia | omega))
      · exact neN (by (first | lia | omega))
  · intro h' hk' N' _
    exact ⟨by simp [Ints], N', (Go.refl [] s).new fun b o e => hk' b o (k1 b o e)⟩
  · exact fun i us s5 u => u.2.1
  · rintro us s' h' ⟨u1, u2, u3⟩ hLs sb
    rw [hsz, List.take_length] at u1
    exact hQ aa us _ hLs u1 (by (first | lia | omega)) (u3.same (tk := s'.toks) sb (by (first | lia | omega)))
theorem cell_kp {h h' : Heap} {c : Addr} {v : Option Value} (e : h.IsCell c v) (hk : Kp h h') : h'.IsCell c v := by
  obtain ⟨o, e, q⟩ := e
  exact ⟨o, hk _ _ (fun vs z => by rw [q] at z; cases z) e, q⟩
theorem cell_goX {s s' : Shared} {c : Nat} {v : Option Value} (h : s.heap.IsCell c v) (G : Go [x] s s') (hc : 135 ≤ c) (hx : c ≠ x) : s'.heap.IsCell c v := by
  obtain ⟨o, e, q⟩ := h
  exact ⟨o, G.getW e hc (ni1 hx), q⟩
end
end Mine
end

/-! Jb -/
section
open PySem PySem.W PySem.W.X PyProof.Rows PySem.Calls
open Sem (wp)
set_option Elab.async false
set_option maxRecDepth 100000
set_option maxHeartbeats 1000000
namespace Mine
def sv : Value → Option Str
  | .str y _ => some y
  | _ => none
def Txs (vs : List Value) (tx : List (List Nat)) : Prop := vs.map sv = tx.map fun t => some (S t)
theorem Txs.len {vs : List Value} {tx : List (List Nat)} (h : Txs vs tx) : vs.length = tx.length := by
  have := congrArg List.length h
  simpa using this
theorem Txs.snoc {vs : List Value} {tx : List (List Nat)} {p : List Nat} {t : Tok} (h : Txs vs tx) : Txs (vs ++ [.str (S p) t]) (tx ++ [p]) := by
  unfold Txs at *
  rw [List.map_append, List.map_append, h]; rfl
theorem Txs.at {vs : List Value} {tx : List (List Nat)} (h : Txs vs tx) {i : Nat} {v : Value} (e : vs[i]? = some v) : ∃ p t, tx[i]? = some p ∧ v = .str (S p) t := by
  have h1 := congrArg (·[i]?) h
  simp only [List.getElem?_map, e, Option.map_some] at h1
  cases q : tx[i]? with
  | none => rw [q] at h1; cases h1
  | some k =>
    rw [q, Option.map_some] at h1
    have h1 := Option.some.inj h1
    cases v <;> simp only [sv] at h1 <;> cases h1
    exact ⟨k, _, rfl, rfl⟩
abbrev eJO (L : Addr) : Env := callEnvC fdJO L 122
theorem fmJO (L : Addr) : Fm (eJO L) := ⟨rfl, rfl, rfl⟩
theorem Pl.ext {h h' : Heap} {a z : Addr} {ps : List (List Nat)} (p : Pl h a ps) (hk : ∀ b o, b ≠ z → h.get? b = some o → h'.get? b = some o) (hz : a ≠ z) (ho : ∀ a b ta tb, h.get? z ≠ some (tpO a b ta tb)) : Pl h' a ps := by
  obtain ⟨vs, ⟨n, e⟩, t⟩ := p
  refine ⟨vs, ⟨n, hk _ _ hz e⟩, t.1, fun i q hq => ?_⟩
  obtain ⟨v, e1, t, ta, tb, e2, e3, e4⟩ := t.2 i q hq
  refine ⟨v, e1, t, ta, tb, e2, e3, hk _ _ ?_ e4⟩
  rintro rfl
  exact ho _ _ _ _ e4
structure Jb (w : World) (s0 st s : Shared) (L x d j : Nat) (l : List (Str × Value)) (ps : List (List Nat)) (tx : List (List Nat)) : Prop where
  b : Bx w [x, L, j] s0 st s L x d l (stkOf ps)
  ce : s.heap.IsCell (L + 1) (some (.ref x))
  lx : L + 1 < x
  jl : ∃ vs, Ls s.heap j vs ∧ Txs vs tx
  xj : x < j ∧ d < j
section
variable {w : World} {A : Around} {s0 st s s' : Shared} {L x d j : Nat} {l l' : List (Str × Value)} {ps ps' tx : List (List Nat)} {env : Env}
theorem Jb.c (b : Jb w s0 st s L x d j l ps tx) : Cx w s.heap := b.b.c
theorem Jb.j135 (b : Jb w s0 st s L x d j l ps tx) : 135 ≤ j := Nat.le_trans b.b.x135 (Nat.le_of_lt b.xj.1)
theorem Jb.go (b : Jb w s0 st s L x d j l ps tx) (G : Go [] s s') : Jb w s0 st s' L x d j l ps tx := by
  obtain ⟨vs, h1, h2⟩ := b.jl
  exact ⟨b.b.go G, cell_go b.ce G (Nat.le_succ_of_le b.b.L135), b.lx, ⟨vs, h1.go G b.j135, h2⟩, b.xj⟩
theorem Jb.tok (b : Jb w s0 st s L x d j l ps tx) (tk : Nat) : Jb w s0 st { s with toks := tk } L x d j l ps tx := b.go ((Go.refl [] s).tok tk)
theorem Jb.goX (b : Jb w s0 st s L x d j l ps tx) (q' : Stk s'.heap x d (stkOf ps')) (G : Go [x] s s') : Jb w s0 st s' L x d j l ps' tx := by
  obtain ⟨vs, h1, h2⟩ := b.jl
  have hxj := b.xj.1
  refine ⟨b.b.goX q' G, cell_goX b.ce G (Nat.le_succ_of_le b.b.L135) (Nat.ne_of_lt b.lx), b.lx, ⟨vs, h1.keeps fun o e => G.getW e b.j135 (ni1 (by (first | lia | omega))), h2⟩, b.xj⟩
theorem Jb.setX (b : Jb w s0 st s L x d j l ps tx) {h' : Heap} {tk : Nat} (N : Nl h' L l') (hk : ∀ y o, y ≠ L → s.heap.get? y = some o → h'.get? y = some o) : Jb w s0 st { s with heap := h', toks := tk } L x d j l' ps tx := by
  obtain ⟨vs, h1, h2⟩ := b.jl
  have hxj := b.xj.1
  have hlx := b.lx
  refine ⟨b.b.setX N hk, ?_, b.lx, ⟨vs, h1.keeps fun o e => hk _ _ (neN (by (first | lia | omega))) e, h2⟩, b.xj⟩
  obtain ⟨o, e, q⟩ := b.ce
  exact ⟨o, hk _ _ (neN (by (first | lia | omega))) e, q⟩
theorem Jb.sub (b : Jb w s0 st s L x d j l ps tx) (e : l'.map (fun p => l.lookup p.1) = l'.map (fun p => some p.2)) : Jb w s0 st s L x d j l' ps tx := ⟨b.b.sub e, b.ce, b.lx, b.jl, b.xj⟩
/-- a name is stored -/
theorem Jb.store {y : Str} {v : Value} {Q : Unit → Shared → Prop} (b : Jb w s0 st s L x d j l ps tx) (l' : List (Str × Value)) (f : Fm env) (hL : env.locals = L) (hl : env.kindOf y = some .local) (e : l'.map (fun p => ((y, v) :: l).lookup p.1) = l'.map (fun p => some p.2))
    (h : ∀ s', Jb w s0 st s' L x d j l' ps tx → Heap.SameBut L s.heap s'.heap → Q () s') : wpN w A (storeName env y v) Q s := by
  subst hL
  exact Mine.st f b.b.n hl e fun h' N' hs => h _ (b.setX N' hs.extBut) hs
/-- joined.append(..) -/
theorem Jb.app (b : Jb w s0 st s L x d j l ps tx) {vs : List Value} {p : List Nat} {h' : Heap} (hL : Ls h' j vs) (hv : Txs vs (tx ++ [p])) (hs : Heap.SameBut j s.heap h') : Jb w s0 st { s with heap := h' } L x d j l ps (tx ++ [p]) := by
  have hxj := b.xj
  have hlx := b.lx
  have hL0 := b.b.l0
  obtain ⟨vs0, hj0, _⟩ := b.jl
  obtain ⟨n0, ho0⟩ := hj0
  refine ⟨⟨b.b.n.but hs (neN (by (first | lia | omega))), ?_, b.b.g.same (tk := s.toks) hs (by (first | lia | omega)), b.b.t.upd (tk := s.toks) hs (by simp) b.j135, b.b.c0, b.b.l0, b.b.lx, b.b.ld, by simp, by simp⟩, ?_, b.lx, ⟨vs, hL, hv⟩, b.xj⟩
  · obtain ⟨xs, a, t⟩ := b.b.q
    obtain ⟨n, ho⟩ := a.ob
    obtain ⟨od, hd', D⟩ := a.di
    refine ⟨xs, ⟨⟨n, hs.extBut _ _ (neN (by (first | lia | omega))) ho⟩, ⟨od, hs.extBut _ _ (neN (by (first | lia | omega))) hd', D⟩, a.lo⟩, t.1, fun i p hp => ?_⟩
    obtain ⟨v, e1, t, ta, tb, e2, e3, e4⟩ := t.2 i p hp
    refine ⟨v, e1, t, ta, tb, e2, e3, hs.extBut _ _ ?_ e4⟩
    rintro rfl
    exact absurd (congrArg Obj.cls (Option.some.inj (ho0.symm.trans e4))) (by show Value.type "list" ≠ Value.type "tuple"; decide)
  · obtain ⟨o, e, q⟩ := b.ce
    exact ⟨o, hs.extBut _ _ (neN (by (first | lia | omega))) e, q⟩
/-- an iterator is moved -/
theorem Jb.kp (b : Jb w s0 st s L x d j l ps tx) {h' : Heap} {tk : Nat} {wr : List Addr} (hf : ∀ y ∈ wr, Fld s.heap y) (hk : ∀ y o, y ∉ wr → s.heap.get? y = some o → h'.get? y = some o) (hw : ∀ y ∈ wr, s0.heap.objs.size ≤ y) :
    Jb w s0 { s with heap := h', toks := tk } { s with heap := h', toks := tk } L x d j l ps tx := by
  obtain ⟨vs, h1, h2⟩ := b.jl
  exact ⟨b.b.kp hf hk hw, cell_kp b.ce (Kp.of hf hk), b.lx, ⟨vs, h1.kp (Kp.of hf hk), h2⟩, b.xj⟩
theorem Jb.turn (b : Jb w s0 st s L x d j l ps tx) : Jb w s0 s s L x d j l ps tx := ⟨b.b.turn, b.ce, b.lx, b.jl, b.xj⟩
theorem Jb.fld (b : Jb w s0 st s L x d j l ps tx) {y : Addr} (hy : Fld s.heap y) : y ∉ [x, L, j] := by
  have h1 := Go.fld hy b.b.q b.b.n
  obtain ⟨vs, ⟨n, ho⟩, _⟩ := b.jl
  intro hm
  simp only [List.mem_cons, List.not_mem_nil, or_false] at h1 hm
  rcases hm with h | h | h
  · exact h1 (.inl h)
  · exact h1 (.inr h)
  · subst h
    obtain ⟨o, us, e, q⟩ := hy
    rw [ho] at e
    cases e
    cases q
theorem Jb.plX (b : Jb w s0 st s L x d j l ps tx) {a : Addr} {qs : List (List Nat)} (p : Pl s.heap a qs) (ha : 135 ≤ a) (G : Go [x] s s') : Pl s'.heap a qs := by
  obtain ⟨xs, ac, _⟩ := b.b.q
  obtain ⟨o, ho, hc⟩ := ac.cls
  obtain ⟨vs, ⟨n, e⟩, t⟩ := p
  have hax : a ≠ x := by
    rintro rfl
    rw [ho] at e
    cases e
    cases hc
  exact ⟨vs, ⟨n, G.getW e ha (by simpa using hax)⟩, t.goX ac G⟩
theorem Jb.plL (b : Jb w s0 st s L x d j l ps tx) {a : Addr} {qs : List (List Nat)} {h' : Heap} (p : Pl s.heap a qs) (hk : Heap.SameBut L s.heap h') : Pl h' a qs := by
  obtain ⟨oL, es, ep, eL, dL⟩ := b.b.n.dict
  refine p.ext hk.extBut ?_ fun a' b' ta tb e => ?_
  · rintro rfl
    obtain ⟨vs, ⟨n, e⟩, t⟩ := p
    rw [e] at eL
    cases eL
    cases dL
  · rw [e] at eL
    cases eL
    cases dL
theorem Jb.plJ (b : Jb w s0 st s L x d j l ps tx) {a : Addr} {qs : List (List Nat)} {h' : Heap} (p : Pl s.heap a qs) (ha : a ≠ j) (hk : Heap.SameBut j s.heap h') : Pl h' a qs := by
  obtain ⟨vs0, ⟨n0, ho0⟩, _⟩ := b.jl
  refine p.ext hk.extBut ha fun a' b' ta tb e => ?_
  exact absurd (congrArg Obj.cls (Option.some.inj (ho0.symm.trans e))) (by show Value.type "list" ≠ Value.type "tuple"; decide)
end
end Mine
end

/-! Jo -/
section
open PySem PySem.W PySem.W.X PyProof.Rows PySem.Calls
open Sem (wp)
set_option Elab.async false
set_option maxRecDepth 100000
set_option maxHeartbeats 1000000
namespace Mine
def leavesN (r : List Nat) (i : Nat) : List (List Nat) := (List.range i).map fun k => List.replicate (r.getD k 0) (97 + k)
theorem leavesN_succ (r : List Nat) (i : Nat) : leavesN r (i + 1) = leavesN r i ++ [List.replicate (r.getD i 0) (97 + i)] := by
  unfold leavesN
  rw [List.range_succ, List.map_append]; rfl
theorem leavesN_len (r : List Nat) (i : Nat) : (leavesN r i).length = i := by simp [leavesN]
theorem leaves_row (r : List Nat) : (leavesN r r.length).map List.length = r := by
  unfold leavesN
  apply List.ext_getElem
  · simp
  · intro i h1 h2
    simp only [List.map_map, List.getElem_map, List.getElem_range, Function.comp, List.length_replicate]
    rw [List.getD_eq_getElem?_getD, List.getElem?_eq_getElem h2]; rfl
section
variable {w : World} {A : Around} {s : Shared} {env : Env}
local macro_rules | `(tactic| x_close) => `(tactic| (repeat (first | with_reducible refine wpAny_BinOp ?_ | ((with_reducible apply ld (fmJO _)); assumption; rfl; rfl; rfl) | with_reducible refine wpAny_Constant_int ?_ | with_reducible refine wpAny_Constant_str ?_ | with_reducible refine add_int ?_ | with_reducible refine sub_int ?_)))
/-- the head: the row laid as pieces -/
theorem jo_head {aw : Nat} {vs : List Value} {r : List Nat} {to : Tok} {Q : Value → Shared → Prop} (c : Cx w s.heap) (rm : Rm 8 A) (hl : Ls s.heap aw vs) (ha : 135 ≤ aw) (hi : Ints vs (r.map fun (n : Nat) => (n : Int))) (h6 : r.length ≤ 6) (hb : ∀ k ∈ r, 1 ≤ k ∧ k ≤ 8)
    (hQ : ∀ (L x d j : Nat) t s', 135 ≤ L → s.heap.objs.size = L → Jb w s s' s' L x d j [("weights", .ref aw), ("row", .bytes (Bt r) t), ("joined", .ref j)] (leavesN r r.length) [] →
      wpD w (A.deeper (eJO L)) (execs ((fnB (topS 8)).drop 4) (eJO L)) (fun fl s' => Q (match fl with | .ret v => v | _ => .none) s') s') :
    wpD w A (PySem.call (.ref 122) [.bytes (Bt r) to, .ref aw]) Q s := by
  have hlen : vs.length = r.length := by have := hi.len; simpa using this
  have has : aw < s.heap.objs.size := ltN (Classical.choose_spec hl)
  refine D.enterC [("octets", .bytes (Bt r) to), ("weights", .ref aw)] [("octets", .bytes (Bt r) to), ("weights", .ref aw)] c (kJO _) (st := topS 8) rfl (by kernel_rfl) rm.room (by kernel_rfl) rfl (fun x hx => ?_) (by kernel_rfl) (fun _ => by rfl) fun L s0 hLd hL N0 C0 G0 c0 => ?_
  · simp only [List.mem_cons, List.not_mem_nil, or_false] at hx
    rcases hx with rfl | rfl
    · exact .inl (by kernel_rfl)
    · exact .inl (by kernel_rfl)
  have hc0 : s0.heap.IsCell (L + 1) none := C0 "line" (L + 1) (by rfl)
  have r0 := rm.deeper (env := eJO L)
  have lt0 := N0.lt
  have ltc : L + 1 < s0.heap.objs.size := by obtain ⟨o, e, _⟩ := hc0; exact ltN e
  -- line = _Accumulator()
  refine D.execs_cons (D.of (asg (acc_new (fmJO L) c0 (r0.mono (by (first | lia | omega))) rfl fun x d s1 hx hd q1 G1 => ?_) (by rfl)))
  have hc1 : s1.heap.IsCell (L + 1) none := cell_go hc0 G1 (Nat.le_succ_of_le hL)
  have N1 := N0.go G1 hL
  refine wpAny_storeName_cell (fmJO L).kind rfl (c := L + 1) (by rfl) hc1 fun h2 hc2 hs2 => ?_
  have hxL : L < x := by (first | lia | omega)
  have hdL : L < d := by (first | lia | omega)
  have B1 : Bx w [x, L] s { s1 with heap := h2 } { s1 with heap := h2 } L x d [("octets", .bytes (Bt r) to), ("weights", .ref aw)] (stkOf (leavesN r 0)) := by
    refine ⟨N1.but hs2 (neN (by (first | lia | omega))), ?_, (G0.trans G1).same (tk := s1.toks) hs2 (by (first | lia | omega)), .refl _ _, c, Nat.le_of_eq hLd, hxL, hdL, by simp, by simp⟩
    obtain ⟨xs, a, t⟩ := q1
    obtain ⟨n, ho⟩ := a.ob
    obtain ⟨od, hd', D⟩ := a.di
    refine ⟨xs, ⟨⟨n, hs2.extBut _ _ (neN (by (first | lia | omega))) ho⟩, ⟨od, hs2.extBut _ _ (neN (by (first | lia | omega))) hd', D⟩, a.lo⟩, t.1, fun i p hp => ?_⟩
    simp [leavesN, stkOf, pcs] at hp
  have hc2 : ({ s1 with heap := h2 } : Shared).heap.IsCell (L + 1) (some (.ref x)) := hc2
  generalize hs2e : ({ s1 with heap := h2 } : Shared) = s2 at B1 hc2
  clear hs2 q1 G1 N1 N0 G0 c0 hc1 hc0 C0
  have hlx : L + 1 < x := by (first | lia | omega)
  have hz2 : L + 1 < s2.heap.objs.size := by obtain ⟨o, e, _⟩ := hc2; exact ltN e
  -- for place, weight in enumerate(weights)
  have N := B1.n
  refine D.execs_cons (D.of (exec_for (callT (fmJO L) B1.c rfl (b_enumerate _) rfl rfl rfl (sp1 rfl ?_)) (fun _ => rfl)))
  x_close
  have hl2 : Ls s2.heap aw vs := hl.go B1.g ha
  have hal := ltN (Classical.choose_spec hl2)
  refine enum_ls hl2 fun e s3 he hst G3 hk3 => ?_
  have B3 := (B1.go G3).turn
  have hc3 : s3.heap.IsCell (L + 1) (some (.ref x)) := cell_go hc2 G3 (Nat.le_succ_of_le hL)
  have hWa : aw ∉ [x, L] := ni2 ⟨by (first | lia | omega), by (first | lia | omega)⟩
  refine forT_ruleF (Pt := fun i vals => ∃ t x, vs.toArray[i]? = some x ∧ vals = #[.int i t, x]) (WalksT.enumerate r0.h e s2.heap.objs.size aw (neN (by (first | lia | omega))) (neN (by (first | lia | omega))) (neN (by (first | lia | omega))) vs.toArray).toU
    (fun i u => Bx w [x, L] s u u L x d [("octets", .bytes (Bt r) to), ("weights", .ref aw)] (stkOf (leavesN r i)) ∧ u.heap.IsCell (L + 1) (some (.ref x))) (fun _ _ st => fld_enum st) (fun _ _ _ st => fld_enumM st) ?_ ?_ hst ⟨B3, hc3⟩ ?_
  · rintro i u h' tk ⟨b, hc⟩ hf hk
    exact ⟨b.kp hf hk (by simp; (first | lia | omega)), cell_kp hc (Kp.of hf hk)⟩
  · rintro i T vals u hi' ⟨th, xv, hxv, rfl⟩ hSt hT ⟨b, hc⟩
    obtain ⟨t2, rfl⟩ := hi.at (by simpa using hxv)
    have hi'' : i < r.length := by rw [← hlen]; simpa using hi'
    have ehs : (r.map fun (h : Nat) => (h : Int)).getD i 0 = ((r.getD i 0 : Nat) : Int) := by
      rw [List.getD_eq_getElem?_getD, List.getD_eq_getElem?_getD, List.getElem?_map, List.getElem?_eq_getElem hi'']
      rfl
    rw [ehs] at hT
    have hh8 : r.getD i 0 ≤ 8 := by
      rw [List.getD_eq_getElem?_getD, List.getElem?_eq_getElem hi'']
      exact (hb _ (List.getElem_mem hi'')).2
    have hFl := fld_enum hSt
    refine assign2 [("octets", .bytes (Bt r) to), ("weights", .ref aw), ("place", .int i th)] r0.h hT (fmJO L) b.n rfl rfl (l' := [("octets", .bytes (Bt r) to), ("weights", .ref aw), ("place", .int i th), ("weight", .int (r.getD i 0 : Nat) t2)]) (by rfl) (by rfl) fun h4 tk4 N4 hk4 => ?_
    have B4 := b.setX (tk := tk4) N4 hk4
    have hc4 : ({ u with heap := h4, toks := tk4 } : Shared).heap.IsCell (L + 1) (some (.ref x)) := by
      obtain ⟨o, ee, q⟩ := hc
      exact ⟨o, hk4 _ _ (neN (by show (L + 1 : Nat) ≠ L; (first | lia | omega))) ee, q⟩
    generalize ({ u with heap := h4, toks := tk4 } : Shared) = u4 at B4 hc4
    clear N4 hk4
    have N := B4.n
    refine seqn (wpAny_Expr_any (push_e (pc := (0, List.replicate (r.getD i 0) (97 + i))) B4.c (r0.mono (by (first | lia | omega))) B4.q (by rw [stkOf_len, leavesN_len]; (first | lia | omega)) (by rfl) (by rfl) (fun h => ldc (fmJO L) hc4 (by rfl) rfl rfl h) rfl ?_ fun z3 q3 G3 => ?_))
    · x_close
      refine callB (fmJO L) (B4.tok _).c rfl (b_chr _) rfl rfl rfl (sp1 rfl ?_)
      x_close
      refine chr_s (by (first | lia | omega)) (by (first | lia | omega)) fun t6 tk6 => ?_
      x_close
      refine mul_s (by (first | lia | omega)) fun t7 tk7 => ⟨(Go.refl [] u4).tok _, ⟨u4.toks, ?_⟩, t7, ?_⟩
      · show Value.str (Str.ofString "") _ = .str (S (List.replicate 0 32)) _
        rw [S_nil]; rfl
      · rw [show ((97 : Int) + i).toNat = 97 + i by (first | lia | omega)]
        rfl
    have Bz := (B4.goX q3 G3).sub (l' := [("octets", .bytes (Bt r) to), ("weights", .ref aw)]) (by rfl)
    rw [← stkOf_snoc, ← leavesN_succ] at Bz
    refine wpAny_execs_nil ⟨rfl, ⟨Bz.turn, cell_goX hc4 G3 (Nat.le_succ_of_le hL) (Nat.ne_of_lt hlx)⟩, fun y hy o ey => ?_⟩
    have hz2' := B1.c.size
    simp only [List.mem_cons, List.not_mem_nil, or_false] at hy
    rcases hy with rfl | rfl | rfl
    · exact Bz.t.getW ey (by show @LE.le Nat _ 135 y; (first | lia | omega)) (Go.fld (hFl _ (by simp)) b.q b.n)
    · exact Bz.t.getW ey hz2' (Go.fld (hFl _ (by simp)) b.q b.n)
    · exact Bz.t.getW ey ha hWa
  · rintro u ⟨b, hc⟩
    have e1 : vs.toArray.size = r.length := by simpa using hlen
    rw [e1] at b
    have N := b.n
    -- row = octets
    refine D.execs_cons (D.of (asg ?_ (by rfl)))
    x_close
    refine b.store [("weights", .ref aw), ("row", .bytes (Bt r) to)] (fmJO L) rfl rfl (by rfl) fun u5 b5 hs5 => ?_
    have hc5 : u5.heap.IsCell (L + 1) (some (.ref x)) := by
      obtain ⟨o, ee, q⟩ := hc
      exact ⟨o, hs5.extBut _ _ (neN (by show (L + 1 : Nat) ≠ L; (first | lia | omega))) ee, q⟩
    -- joined = []
    refine D.execs_cons (D.of (asg (wpAny_List (spliced_nil ⟨by simp, ?_⟩)) (by rfl)))
    have k6 : ∀ y o, u5.heap.get? y = some o → (u5.heap.push (liO [])).get? y = some o := fun y o e => Heap.get?_push_of_some _ e
    have G6 : Go [] u5 { u5 with heap := u5.heap.push (liO []) } := .of_keeps k6
    refine (b5.go G6).store [("weights", .ref aw), ("row", .bytes (Bt r) to), ("joined", .ref u5.heap.objs.size)] (fmJO L) rfl rfl (by rfl) fun u7 b7 hs7 => ?_
    have hxu : x < u5.heap.objs.size := by obtain ⟨o, _, _, e, _⟩ := b5.q.xo; exact ltN e
    have hdu : d < u5.heap.objs.size := by obtain ⟨o, e⟩ := b5.q.do'; exact ltN e
    have hlu := b5.n.lt
    refine hQ L x d u5.heap.objs.size to u7 hL hLd ⟨⟨b7.n, b7.q, b7.g, .refl _ _, b7.c0, b7.l0, b7.lx, b7.ld, by simp, by simp⟩, ?_, hlx, ⟨[], ⟨0, ?_⟩, rfl⟩, hxu, hdu⟩
    · obtain ⟨o, ee, q⟩ := hc5
      exact ⟨o, hs7.extBut _ _ (neN (by show (L + 1 : Nat) ≠ L; (first | lia | omega))) (k6 _ _ ee), q⟩
    · exact hs7.extBut _ _ (neN (by show u5.heap.objs.size ≠ L; (first | lia | omega))) (Heap.get?_push_size _ rfl)
end
end Mine
end

/-! Jp -/
section
open PySem PySem.W PySem.W.X PyProof.Rows PySem.Calls
open Sem (wp)
set_option Elab.async false
set_option maxRecDepth 100000
set_option maxHeartbeats 1000000
namespace Mine
def whB : Stmt → List Stmt
  | .While _ b _ _ => b
  | _ => []
/-- the body of _law_joined's loop -/
def joW : List Stmt := whB (((fnB (topS 8))[4]?).getD (.Pass ⟨0, 0, 0, 0⟩))
def lw (aw j : Nat) (r : List Nat) (t : Tok) : List (Str × Value) := [("weights", .ref aw), ("row", .bytes (Bt r) t), ("joined", .ref j)]
section
variable {w : World} {A : Around} {s : Shared} {env : Env}
/-- a test that two lists and two ints differ, and they do not -/
theorem guard {J : Shared → Prop} {e1 e2 e3 e4 : Expr} {p1 p2 p pos : Pos} {body : List Stmt} {ws : List Int} {n : Int} {Q : Flow → Shared → Prop} (hJ : ∀ s s', J s → Go [] s s' → J s') (hu : A.units < cLine)
    (H1 : ∀ s (Q : Value → Shared → Prop), J s → (∀ (a : Nat) vs s', Ls s'.heap a vs → Ints vs ws → 135 ≤ a → Go [] s s' → Q (.ref a) s') → wpN w A (eval e1 env) Q s)
    (H2 : ∀ s (Q : Value → Shared → Prop), J s → (∀ (a : Nat) vs s', Ls s'.heap a vs → Ints vs ws → 135 ≤ a → Go [] s s' → Q (.ref a) s') → wpN w A (eval e2 env) Q s)
    (H3 : ∀ s (Q : Value → Shared → Prop), J s → (∀ t s', Go [] s s' → Q (.int n t) s') → wpN w A (eval e3 env) Q s)
    (H4 : ∀ s (Q : Value → Shared → Prop), J s → (∀ t s', Go [] s s' → Q (.int n t) s') → wpN w A (eval e4 env) Q s)
    (hm1 : behindInMarks .NotEq e2 = false) (hm2 : behindInMarks .NotEq e4 = false)
    (hj : J s) (h : ∀ s', J s' → Q .next s') :
    wpN w A (exec (.If (.BoolOp .Or [.Compare e1 [.NotEq] [e2] p1, .Compare e3 [.NotEq] [e4] p2] p) body [] pos) env) Q s := by
  refine wpAny_If (isTrue_or (wpAny_isTrue_Compare1 (H1 s _ hj fun a vs s1 l1 i1 la G1 => ?_) hm1))
  have j1 := hJ _ _ hj G1
  refine H2 s1 _ j1 fun b us s2 l2 i2 lb G2 => ?_
  have j2 := hJ _ _ j1 G2
  refine ne_ints hu (l1.go G2 la) l2 i1 i2 (truthy_bool ?_)
  rw [if_neg (by decide)]
  refine isTrue_or (wpAny_isTrue_Compare1 (H3 s2 _ j2 fun t s3 G3 => ?_) hm2)
  have j3 := hJ _ _ j2 G3
  refine H4 s3 _ j3 fun t' s4 G4 => ?_
  have j4 := hJ _ _ j3 G4
  refine ne_int (truthy_bool ?_)
  rw [if_neg (by simp)]
  refine isTrue_or_nil ?_
  rw [if_neg (by decide)]
  exact wpAny_execs_nil (h s4 j4)
/-- what holds in the loop of _law_joined -/
structure Ji (w : World) (aw : Nat) (ws : List Int) (s0 : Shared) (u : Shared) (L x d j : Nat) (l : List (Str × Value)) (ps tx : List (List Nat)) (T : Nat) : Prop where
  b : ∃ st, Jb w s0 st u L x d j l ps tx
  tb : Tbs u.heap
  w : ∃ vs, Ls u.heap aw vs ∧ Ints vs ws
  wa : 135 ≤ aw ∧ aw < s0.heap.objs.size
  ws : ws.sum = T ∧ ws.length ≤ 6 ∧ ∀ k ∈ ws, 0 ≤ k ∧ k ≤ 100000000
  t : (ps.map List.length).sum = T ∧ T ≤ 48
  n : 1 ≤ ps.length ∧ ps.length ≤ 6
section
variable {aw : Nat} {ws : List Int} {s0 u u' : Shared} {L x d j T : Nat} {l l' : List (Str × Value)} {ps tx : List (List Nat)}
theorem Ji.go (i : Ji w aw ws s0 u L x d j l ps tx T) (G : Go [] u u') : Ji w aw ws s0 u' L x d j l ps tx T := by
  obtain ⟨st, b⟩ := i.b
  obtain ⟨vs, h1, h2⟩ := i.w
  exact ⟨⟨st, b.go G⟩, G.tab i.tb, ⟨vs, h1.go G i.wa.1, h2⟩, i.wa, i.ws, i.t, i.n⟩
theorem Ji.tok (i : Ji w aw ws s0 u L x d j l ps tx T) (tk : Nat) : Ji w aw ws s0 { u with toks := tk } L x d j l ps tx T := i.go ((Go.refl [] u).tok tk)
theorem Ji.N (i : Ji w aw ws s0 u L x d j l ps tx T) : Nl u.heap L l := by obtain ⟨st, b⟩ := i.b; exact b.b.n
theorem Ji.ce (i : Ji w aw ws s0 u L x d j l ps tx T) : u.heap.IsCell (L + 1) (some (.ref x)) := by obtain ⟨st, b⟩ := i.b; exact b.ce
theorem Ji.q (i : Ji w aw ws s0 u L x d j l ps tx T) : Stk u.heap x d (stkOf ps) := by obtain ⟨st, b⟩ := i.b; exact b.b.q
theorem Ji.c (i : Ji w aw ws s0 u L x d j l ps tx T) : Cx w u.heap := by obtain ⟨st, b⟩ := i.b; exact b.c
theorem Ji.each (i : Ji w aw ws s0 u L x d j l ps tx T) : ∀ p ∈ ps, p.length ≤ 48 := by
  intro p hp
  have := le_sum_mem (ps.map List.length) p.length (List.mem_map.mpr ⟨p, hp, rfl⟩)
  have h1 := i.t
  (first | lia | omega)
theorem Ji.row (i : Ji w aw ws s0 u L x d j l ps tx T) : ∀ k ∈ ps.map List.length, k < 256 := by
  intro k hk
  obtain ⟨p, hp, rfl⟩ := List.mem_map.mp hk
  have := i.each p hp
  (first | lia | omega)
theorem Ji.store {y : Str} {v : Value} {Q : Unit → Shared → Prop} (i : Ji w aw ws s0 u L x d j l ps tx T) (l' : List (Str × Value)) (f : Fm env) (hL : env.locals = L) (hl : env.kindOf y = some .local) (e : l'.map (fun p => ((y, v) :: l).lookup p.1) = l'.map (fun p => some p.2))
    (h : ∀ u', Ji w aw ws s0 u' L x d j l' ps tx T → Heap.SameBut L u.heap u'.heap → Q () u') : wpN w A (storeName env y v) Q u := by
  obtain ⟨st, b⟩ := i.b
  have hl0 := b.b.l0
  have hwa := i.wa.2
  obtain ⟨vs, h1, h2⟩ := i.w
  refine b.store l' f hL hl e fun u' b' hs => h u' ⟨⟨st, b'⟩, i.tb.keeps (fun o e => hs.extBut _ _ (neN ?_) e) (fun o e => hs.extBut _ _ (neN ?_) e), ⟨vs, h1.keeps fun o e => hs.extBut _ _ (neN (by (first | lia | omega))) e, h2⟩, i.wa, i.ws, i.t, i.n⟩ hs
  · have := b.b.L135; (first | lia | omega)
  · have := b.b.L135; (first | lia | omega)
end
local macro_rules | `(tactic| x_close) => `(tactic| (repeat (first | with_reducible refine wpAny_BinOp ?_ | ((with_reducible apply ld (fmJO _)); assumption; rfl; rfl; rfl) | with_reducible refine wpAny_Constant_int ?_ | with_reducible refine wpAny_Constant_str ?_ | with_reducible refine add_int ?_ | with_reducible refine sub_int ?_)))
/-- the check at the head of each turn, and at the end -/
theorem check_ok {aw : Nat} {ws : List Int} {s0 u : Shared} {L x d j T : Nat} {l : List (Str × Value)} {t : Tok} {ps tx : List (List Nat)} {q1 q2 q3 q4 q5 q6 q7 q8 q9 q10 q11 q12 q13 q14 q15 q16 q17 p1 p2 p pos : Pos} {kt : Nat} {scope : Scope} {body : List Stmt} {Q : Flow → Shared → Prop}
    (r : Rm 6 A) (hl : l = lw aw j (ps.map List.length) t) (i : Ji w aw ws s0 u L x d j l ps tx T)
    (hclos : closureFor scope (eJO L) = Pure.pure []) (hkind : scope.kind = .function) (hnames : (scope.names.all fun x => x.2 != .local || scope.names.lookup x.1 == some .local) = true)
    (h1 : (cEnv scope [] 0 (eJO L)).kindOf "blank" = some .local) (h2 : (cEnv scope [] 0 (eJO L)).kindOf "part" = some .local) (h3 : (cEnv scope [] 0 (eJO L)).kindOf "len" = some .globalImplicit)
    (hQ : ∀ u', Ji w aw ws s0 u' L x d j l ps tx T → Q .next u') :
    wpN w A (exec (.If (.BoolOp .Or [
      .Compare (.ListComp (.Call (.Name "len" q1) [.Name "part" q2] [] q3) [⟨.Tuple [.Name "blank" q4, .Name "part" q5] kt q6, .Name "line" q7, [], 0⟩] scope q8) [.NotEq] [.Call (.Name "list" q9) [.Name "row" q10] [] q11] p1,
      .Compare (.Call (.Name "len" q12) [.Name "line" q13] [] q14) [.NotEq] [.Call (.Name "sum" q15) [.Name "weights" q16] [] q17] p2] p) body [] pos) (eJO L)) Q u := by
  subst hl
  refine guard (J := fun u => Ji w aw ws s0 u L x d j (lw aw j (ps.map List.length) t) ps tx T) (ws := ps.map fun p => (p.length : Int)) (n := (T : Int)) (fun s s' i G => i.go G) r.units ?_ ?_ ?_ ?_ (by rfl) (by rfl) i hQ
  · intro u Q i hQ
    refine lens_e (fmJO L) i.c r.h i.q (by have := i.n; (first | lia | omega)) (fun p hp => by have := i.each p hp; (first | lia | omega)) hclos hkind hnames h1 h2 h3 (fun h => ldc (fmJO L) i.ce (by rfl) rfl rfl h) fun a vs u' l1 i1 la G => hQ a vs u' l1 i1 (Nat.le_trans i.c.size la) G
  · intro u Q i hQ
    have N := i.N
    refine callT (fmJO L) i.c rfl (b_list _) rfl rfl rfl (sp1 rfl ?_)
    refine ld (fmJO L) N (v := .bytes (Bt (ps.map List.length)) t) (by rfl) rfl rfl ?_
    refine list_bt r.h (by have := i.n; simp; (first | lia | omega)) i.row fun a vs u' l1 i1 la G => hQ a vs u' l1 ?_ (Nat.le_trans i.c.size la) G
    rw [List.map_map] at i1
    exact i1
  · intro u Q i hQ
    obtain ⟨xs, ac, tp⟩ := i.q
    refine callB (fmJO L) i.c rfl (b_len _) rfl rfl rfl (sp1 rfl (ldc (fmJO L) i.ce (by rfl) rfl rfl ?_))
    refine len_acc i.c i.tb (r.mono (by (first | lia | omega))) ac tp (by rw [pcs_len, stkOf_len]; have := i.n; (first | lia | omega)) (fun p hp => ?_) fun t' u' G => ?_
    · rw [pcs_of] at hp
      obtain ⟨p', hp', rfl⟩ := List.mem_map.mp hp
      have := i.each p' hp'
      show (S _).length ≤ _ ∧ (S _).length ≤ _
      rw [S_len, S_len]
      simp; (first | lia | omega)
    · have e : (szs (pcs (stkOf ps))).sum = (T : Int) := by
        rw [pcs_of, ← i.t.1]
        unfold szs
        rw [List.map_map]
        have : ∀ l : List (List Nat), (l.map ((fun p : Str × Str => (p.1.length : Int) + p.2.length) ∘ pz)).sum = ((l.map List.length).sum : Nat) := by
          intro l
          induction l with
          | nil => rfl
          | cons p l ih =>
            simp only [List.map_cons, List.sum_cons, ih, Function.comp]
            show ((S (List.replicate 0 32)).length : Int) + (S p).length + _ = _
            rw [S_len, S_len]
            simp
        exact this ps
      rw [e]
      exact hQ t' u' G
  · intro u Q i hQ
    have N := i.N
    obtain ⟨vs, hl, hi⟩ := i.w
    refine callB (fmJO L) i.c rfl (b_sum _) rfl rfl rfl (sp1 rfl ?_)
    refine ld (fmJO L) N (v := .ref aw) (by rfl) rfl rfl ?_
    refine sum_ints r.h hl hi i.ws.2.2 (by have := i.ws.2.1; (first | lia | omega)) fun t' u' G => ?_
    rw [i.ws.1]
    exact hQ t' u' G
end
end Mine
end

/-! Jq -/
section
open PySem PySem.W PySem.W.X PyProof.Rows PySem.Calls
open Sem (wp)
set_option Elab.async false
set_option maxRecDepth 100000
set_option maxHeartbeats 1000000
namespace Mine
section
variable {w : World} {A : Around} {s : Shared} {env : Env}
local macro_rules | `(tactic| x_close) => `(tactic| (repeat (first | with_reducible refine wpAny_BinOp ?_ | ((with_reducible apply ld (fmJO _)); assumption; rfl; rfl; rfl) | with_reducible refine wpAny_Constant_int ?_ | with_reducible refine wpAny_Constant_str ?_ | with_reducible refine add_int ?_ | with_reducible refine sub_int ?_)))
theorem jo_find {aw : Nat} {ws : List Int} {s0 u : Shared} {L x d j T : Nat} {t : Tok} {ps tx : List (List Nat)} {Q : Flow → Shared → Prop} (r : Rm 6 A) (i : Ji w aw ws s0 u L x d j (lw aw j (ps.map List.length) t) ps tx T) (h2 : 2 ≤ ps.length)
    (hQ : ∀ u' t1 t2 t3 (a tt lo : Nat), a = atF (ps.map List.length) → tt = (ps.map List.length).getD a 0 + (ps.map List.length).getD (a + 1) 0 → lo = lowF (ps.map List.length) tt a →
      Ji w aw ws s0 u' L x d j [("weights", .ref aw), ("row", .bytes (Bt (ps.map List.length)) t), ("joined", .ref j), ("at", .int a t1), ("total", .int tt t2), ("low", .int lo t3)] ps tx T →
      wpD w A (execs (joW.drop 6) (eJO L)) Q u') : wpD w A (execs joW (eJO L)) Q u := by
  refine D.execs_cons (D.of (check_ok r rfl i (by rfl) rfl (by rfl) rfl rfl rfl fun u1 i1 => ?_))
  have hrow := i.row
  have hn := i.n
  generalize hR : ps.map List.length = R at *
  have hRl : R.length = ps.length := by rw [← hR]; simp
  have hR6 : R.length ≤ 6 := by (first | lia | omega)
  -- at = 0
  refine D.execs_cons (D.of (asg ?_ (by rfl)))
  x_close
  refine i1.tok _ |>.store [("weights", .ref aw), ("row", .bytes (Bt R) t), ("joined", .ref j), ("at", .int 0 u1.toks)] (fmJO L) rfl rfl (by rfl) fun u2 i2 _ => ?_
  -- while
  refine D.execs_cons (D.of (wpAny_mono (Mine.N.whl (Q := fun f z => f = .next ∧ ∃ t1, Ji w aw ws s0 z L x d j [("weights", .ref aw), ("row", .bytes (Bt R) t), ("joined", .ref j), ("at", .int (atF R : Nat) t1)] ps tx T)
    (fun n z => ∃ (k : Nat) (t1 : Tok), n = R.length - k ∧ k ≤ R.length ∧ k + atF (R.drop k) = atF R ∧ Ji w aw ws s0 z L x d j [("weights", .ref aw), ("row", .bytes (Bt R) t), ("joined", .ref j), ("at", .int k t1)] ps tx T) ?_ R.length
    ⟨0, _, rfl, Nat.zero_le _, by simp, i2⟩) (fun f z hz => ?_) fun _ _ z => z))
  · rintro n z ⟨k, t1, rfl, hk, hat, iz⟩
    have N := iz.N
    refine isTrue_and (wpAny_isTrue_Compare1 ?_)
    x_close
    refine callB (fmJO L) (iz.tok _).c rfl (b_len _) rfl rfl rfl (sp1 rfl ?_)
    refine ld (fmJO L) N (v := .bytes (Bt R) t) (by rfl) rfl rfl ?_
    refine len_bt (by (first | lia | omega)) fun tl tkl => ?_
    refine lt_int (truthy_bool ?_)
    by_cases hlt : k + 2 < R.length
    · rw [if_pos (by simp; (first | lia | omega))]
      refine isTrue_and (wpAny_isTrue_Compare1 (wpAny_Subscript_Name_late ?_))
      refine ld (fmJO L) N (v := .bytes (Bt R) t) (by rfl) rfl rfl ?_
      refine ld (fmJO L) N (v := .int k t1) (by rfl) rfl rfl ?_
      refine sub_bt (by (first | lia | omega)) hrow (by (first | lia | omega)) (by (first | lia | omega)) fun ta tka => ?_
      refine wpAny_Subscript_BinOp_late ?_
      refine ld (fmJO L) N (v := .bytes (Bt R) t) (by rfl) rfl rfl ?_
      x_close
      refine sub_bt (by (first | lia | omega)) hrow (by (first | lia | omega)) (by (first | lia | omega)) fun tb tkb => ?_
      refine gt_int (truthy_bool ?_)
      rw [show ((k : Int)).toNat = k by (first | lia | omega), show ((k : Int) + 2).toNat = k + 2 by (first | lia | omega)]
      by_cases hgt : R.getD (k + 2) 0 < R.getD k 0
      · rw [if_pos (by simpa using hgt)]
        refine isTrue_and_nil ?_
        rw [if_pos rfl]
        refine wpAny_execs_cons (wpAny_AugAssign_Name ?_)
        refine ldn (fmJO L) N (v := .int k t1) (by rfl) rfl ?_
        x_close
        refine iadd_int ?_
        refine (iz.tok _).store [("weights", .ref aw), ("row", .bytes (Bt R) t), ("joined", .ref j), ("at", .int ((k : Int) + 1) _)] (fmJO L) rfl rfl (by rfl) fun z2 iz2 _ => ?_
        refine wpAny_execs_nil ⟨rfl, R.length - (k + 1), by (first | lia | omega), k + 1, _, rfl, by (first | lia | omega), ?_, iz2⟩
        rw [atF_go hlt hgt] at hat
        (first | lia | omega)
      · rw [if_neg (by simpa using hgt), if_neg (by decide)]
        rw [atF_stop (fun h => hgt h.2), Nat.add_zero] at hat
        subst hat
        exact ⟨rfl, t1, iz.tok _⟩
    · rw [if_neg (by simp; (first | lia | omega)), if_neg (by decide)]
      rw [atF_stop (fun h => hlt h.1), Nat.add_zero] at hat
      subst hat
      exact ⟨rfl, t1, iz.tok _⟩
  obtain ⟨rfl, t1, i3⟩ := hz
  have hatl := atF_lt R (by (first | lia | omega))
  generalize ha : atF R = a at *
  have N := i3.N
  -- total = row[at] + row[at + 1]
  refine D.execs_cons (D.of (asg ?_ (by rfl)))
  refine wpAny_BinOp (wpAny_Subscript_Name_late ?_)
  refine ld (fmJO L) N (v := .bytes (Bt R) t) (by rfl) rfl rfl ?_
  refine ld (fmJO L) N (v := .int a t1) (by rfl) rfl rfl ?_
  refine sub_bt (by (first | lia | omega)) hrow (by (first | lia | omega)) (by (first | lia | omega)) fun ta tka => ?_
  refine wpAny_Subscript_BinOp_late ?_
  refine ld (fmJO L) N (v := .bytes (Bt R) t) (by rfl) rfl rfl ?_
  x_close
  refine sub_bt (by (first | lia | omega)) hrow (by (first | lia | omega)) (by (first | lia | omega)) fun tb tkb => ?_
  refine add_int ?_
  rw [show ((a : Int)).toNat = a by (first | lia | omega), show ((a : Int) + 1).toNat = a + 1 by (first | lia | omega)]
  have ett : ((R.getD a 0 : Nat) : Int) + ((R.getD (a + 1) 0 : Nat) : Int) = ((R.getD a 0 + R.getD (a + 1) 0 : Nat) : Int) := by push_cast; rfl
  rw [ett]
  generalize htt : R.getD a 0 + R.getD (a + 1) 0 = tt
  refine (i3.tok _).store [("weights", .ref aw), ("row", .bytes (Bt R) t), ("joined", .ref j), ("at", .int a t1), ("total", .int tt tkb)] (fmJO L) rfl rfl (by rfl) fun u4 i4 _ => ?_
  have N := i4.N
  -- low = at
  refine D.execs_cons (D.of (asg ?_ (by rfl)))
  refine ld (fmJO L) N (v := .int a t1) (by rfl) rfl rfl ?_
  refine i4.store [("weights", .ref aw), ("row", .bytes (Bt R) t), ("joined", .ref j), ("at", .int a t1), ("total", .int tt tkb), ("low", .int a t1)] (fmJO L) rfl rfl (by rfl) fun u5 i5 _ => ?_
  -- while
  refine D.execs_cons (D.of (wpAny_mono (Mine.N.whl (Q := fun f z => f = .next ∧ ∃ t3, Ji w aw ws s0 z L x d j [("weights", .ref aw), ("row", .bytes (Bt R) t), ("joined", .ref j), ("at", .int a t1), ("total", .int tt tkb), ("low", .int (lowF R tt a : Nat) t3)] ps tx T)
    (fun n z => ∃ t3, n ≤ a ∧ lowF R tt n = lowF R tt a ∧ Ji w aw ws s0 z L x d j [("weights", .ref aw), ("row", .bytes (Bt R) t), ("joined", .ref j), ("at", .int a t1), ("total", .int tt tkb), ("low", .int n t3)] ps tx T) ?_ a
    ⟨_, Nat.le_refl _, rfl, i5⟩) (fun f z hz => ?_) fun _ _ z => z))
  · rintro n z ⟨t3, hna, hlow, iz⟩
    have N := iz.N
    refine isTrue_and (wpAny_isTrue_Compare1 ?_)
    refine ld (fmJO L) N (v := .int n t3) (by rfl) rfl rfl ?_
    x_close
    refine gt_int (truthy_bool ?_)
    cases n with
    | zero =>
      rw [if_neg (by simp), if_neg (by decide)]
      rw [← hlow]
      exact ⟨rfl, t3, iz.tok _⟩
    | succ k =>
      rw [if_pos (by simp)]
      refine isTrue_and (wpAny_isTrue_Compare1 (wpAny_Subscript_BinOp_late ?_))
      refine ld (fmJO L) N (v := .bytes (Bt R) t) (by rfl) rfl rfl ?_
      refine wpAny_BinOp (ld (fmJO L) N (v := .int (k + 1 : Nat) t3) (by rfl) rfl rfl ?_)
      x_close
      refine sub_bt (by (first | lia | omega)) hrow (by (first | lia | omega)) (by (first | lia | omega)) fun tc tkc => ?_
      refine ld (fmJO L) N (v := .int tt tkb) (by rfl) rfl rfl ?_
      refine lt_int (truthy_bool ?_)
      rw [show (((k + 1 : Nat) : Int) - 1).toNat = k by (first | lia | omega)]
      by_cases hlt : R.getD k 0 < tt
      · rw [if_pos (by simpa using hlt)]
        refine isTrue_and_nil ?_
        rw [if_pos rfl]
        refine wpAny_execs_cons (wpAny_AugAssign_Name ?_)
        refine ldn (fmJO L) N (v := .int (k + 1 : Nat) t3) (by rfl) rfl ?_
        x_close
        refine isub_int ?_
        rw [show ((k + 1 : Nat) : Int) - 1 = (k : Int) by (first | lia | omega)]
        refine (iz.tok _).store [("weights", .ref aw), ("row", .bytes (Bt R) t), ("joined", .ref j), ("at", .int a t1), ("total", .int tt tkb), ("low", .int k _)] (fmJO L) rfl rfl (by rfl) fun z2 iz2 _ => ?_
        refine wpAny_execs_nil ⟨rfl, k, by (first | lia | omega), _, by (first | lia | omega), ?_, iz2⟩
        rw [lowF, if_pos hlt] at hlow
        exact hlow
      · rw [if_neg (by simpa using hlt), if_neg (by decide)]
        rw [lowF, if_neg hlt] at hlow
        rw [← hlow]
        exact ⟨rfl, t3, iz.tok _⟩
  obtain ⟨rfl, t3, i6⟩ := hz
  exact hQ z t1 tkb t3 a tt _ rfl htt.symm rfl i6
end
end Mine
end

/-! Jr -/
section
open PySem PySem.W PySem.W.X PyProof.Rows PySem.Calls
open Sem (wp)
set_option Elab.async false
set_option maxRecDepth 100000
set_option maxHeartbeats 1000000
namespace Mine
theorem k_bsw (P : Params) : nsIn (KF P) 3 "_byteswap" = some (some (.ref 28)) := by kernel_rfl
section
variable {w : World} {A : Around} {s : Shared} {env : Env}
theorem max_bt {a b : Nat} {t u : Tok} {Q : Value → Shared → Prop} (hh : A.handled = none) (h : ∀ t s', Go [] s s' → Q (.int (max a b : Nat) t) s') : wpN w A (call (.builtin "max") [.int a t, .int b u]) Q s := by
  refine max_two_ints hh fun h' tk hk => ?_
  by_cases q : (b : Int) > a
  · rw [if_pos q]
    have : max a b = b := by (first | lia | omega)
    rw [this] at h
    exact h u _ (.of_keeps hk)
  · rw [if_neg q]
    have : max a b = a := by (first | lia | omega)
    rw [this] at h
    exact h t _ (.of_keeps hk)
local macro_rules | `(tactic| x_close) => `(tactic| (repeat (first | with_reducible refine wpAny_BinOp ?_ | ((with_reducible apply ld (fmJO _)); assumption; rfl; rfl; rfl) | with_reducible refine wpAny_Constant_int ?_ | with_reducible refine wpAny_Constant_str ?_ | with_reducible refine add_int ?_ | with_reducible refine sub_int ?_)))
theorem jo_row {aw : Nat} {ws : List Int} {s0 u : Shared} {L x d j T : Nat} {t t1 t2 t3 : Tok} {ps tx : List (List Nat)} {Q : Flow → Shared → Prop} {R : List Nat} {a tt lo : Nat} (r : Rm 6 A) (hR : ps.map List.length = R) (hla : lo ≤ a) (ha : a + 1 < R.length) (htt : tt < 256)
    (i : Ji w aw ws s0 u L x d j [("weights", .ref aw), ("row", .bytes (Bt R) t), ("joined", .ref j), ("at", .int a t1), ("total", .int tt t2), ("low", .int lo t3)] ps tx T)
    (hQ : ∀ u' t', Ji w aw ws s0 u' L x d j [("weights", .ref aw), ("row", .bytes (Bt (R.take lo ++ [tt] ++ (R.take a).drop lo ++ R.drop (a + 2))) t'), ("joined", .ref j), ("at", .int a t1), ("low", .int lo t3)] ps tx T →
      wpD w A (execs (joW.drop 8) (eJO L)) Q u') : wpD w A (execs (joW.drop 6) (eJO L)) Q u := by
  have hR6 : R.length ≤ 6 := by have := i.n; rw [← hR]; simp; (first | lia | omega)
  have hrow := i.row
  rw [hR] at hrow
  have hlen : ((R.drop lo).take (a - lo)).length = a - lo := by simp; (first | lia | omega)
  have N := i.N
  -- turned
  refine D.execs_cons (D.assign (D.callF (fmJO L) i.c rfl (k_bsw _) (kBS _) rfl rfl rfl (sp2 rfl (wpAny_BinOp (slice_bt ?_ (fun _ _ => rfl))))) (by rfl))
  refine ld (fmJO L) N (v := .bytes (Bt R) t) (by rfl) rfl rfl ?_
  rw [evalPart_some]
  refine ld (fmJO L) N (v := .int lo t3) (by rfl) rfl rfl ?_
  rw [evalPart_some]
  refine ld (fmJO L) N (v := .int a t1) (by rfl) rfl rfl ?_
  refine ⟨R, t, _, _, lo, a, rfl, by (first | lia | omega), .int _ _, .int _ _, sb_fromto (by (first | lia | omega)) (by (first | lia | omega)), fun t4 u4 _ G4 => ?_⟩
  have i4 := i.go G4
  have N4 := i4.N
  refine callT (fmJO L) i4.c rfl (b_bytes _) rfl rfl rfl (sp1 rfl (wpAny_List (sp1 rfl ?_)))
  refine ld (fmJO L) N4 (v := .int tt t2) (by rfl) rfl rfl ?_
  refine ⟨by show 1 ≤ sizeLine; rw [sizeLine]; decide, ?_⟩
  have k5 : ∀ y o, u4.heap.get? y = some o → (u4.heap.push (liO [.int tt t2])).get? y = some o := fun y o e => Heap.get?_push_of_some _ e
  have G5 : Go [] u4 { u4 with heap := u4.heap.push (liO [.int tt t2]) } := .of_keeps k5
  refine bytes_bt (l := [tt]) (vs := [.int tt t2]) r.h ⟨_, Heap.get?_push_size _ rfl⟩ rfl (by simpa using htt) (by simp) fun t6 u6 _ G6 => ?_
  have i6 := (i4.go G5).go G6
  refine add_bt (by rw [hlen]; simp; (first | lia | omega)) fun t7 tk7 => ?_
  have i7 := i6.tok tk7
  have N := i7.N
  x_close
  refine ⟨(i7.tok _).c, ?_⟩
  have e1 : ((a : Int) - lo + 1) = ((a - lo + 1 : Nat) : Int) := by (first | lia | omega)
  rw [e1]
  refine swap_bt (l := (R.drop lo).take (a - lo) ++ [tt]) (i7.tok _).c (r.mono (by (first | lia | omega))) (by simp; (first | lia | omega)) (by rw [List.length_append, hlen]; simp) fun t9 u9 G9 => ?_
  have i9 := (i7.tok _).go G9
  have eseg : (R.drop lo).take (a - lo) = (R.take a).drop lo := by rw [List.drop_take]
  rw [List.reverse_append, List.reverse_singleton, List.singleton_append, eseg]
  rw [eseg] at hlen
  generalize hseg : (R.take a).drop lo = seg at hlen ⊢ hQ
  refine i9.store [("weights", .ref aw), ("row", .bytes (Bt R) t), ("joined", .ref j), ("at", .int a t1), ("low", .int lo t3), ("turned", .bytes (Bt (tt :: seg.reverse)) t9)] (fmJO L) rfl rfl (by rfl) fun u10 i10 _ => ?_
  have N := i10.N
  -- row
  refine D.execs_cons (D.assign (D.binop (D.binop (D.of (wpAny_BinOp (slice_bt ?_ (fun _ _ => rfl)))))) (by rfl))
  refine ld (fmJO L) N (v := .bytes (Bt R) t) (by rfl) rfl rfl ?_
  rw [evalPart_none]
  refine wpAny_pure ?_
  rw [evalPart_some]
  refine ld (fmJO L) N (v := .int lo t3) (by rfl) rfl rfl ?_
  refine ⟨R, t, _, _, 0, lo, rfl, by (first | lia | omega), .none, .int _ _, sb_to (by (first | lia | omega)), fun t11 u11 _ G11 => ?_⟩
  have i11 := i10.go G11
  have N11 := i11.N
  refine slice_bt ?_ (fun _ _ => rfl)
  refine ld (fmJO L) N11 (v := .bytes (Bt (tt :: seg.reverse)) t9) (by rfl) rfl rfl ?_
  rw [evalPart_none]
  refine wpAny_pure ?_
  rw [evalPart_some]
  x_close
  refine ⟨tt :: seg.reverse, t9, _, _, 0, 1, rfl, by simp; (first | lia | omega), .none, .int _ _, sb_to (k := 1) (by simp), fun t12 u12 _ G12 => ?_⟩
  have i12 := (i11.tok _).go G12
  refine add_bt (by simp; (first | lia | omega)) fun t13 tk13 => ?_
  have i13 := i12.tok tk13
  have N13 := i13.N
  refine D.callF (fmJO L) i13.c rfl (k_bsw _) (kBS _) rfl rfl rfl (sp2 rfl (slice_bt ?_ (fun _ _ => rfl)))
  refine ld (fmJO L) N13 (v := .bytes (Bt (tt :: seg.reverse)) t9) (by rfl) rfl rfl ?_
  rw [evalPart_some]
  x_close
  rw [evalPart_none]
  refine wpAny_pure ?_
  refine ⟨tt :: seg.reverse, t9, _, _, 1, (tt :: seg.reverse).length, rfl, by simp; (first | lia | omega), .int _ _, .none, sl_bounds (k := 1) (by simp), fun t14 u14 _ G14 => ?_⟩
  have i14 := (i13.tok _).go G14
  have N14 := i14.N
  refine callB (fmJO L) i14.c rfl (b_max _) rfl rfl rfl (sp2 rfl ?_)
  x_close
  have e2 : ((a : Int) - lo) = ((a - lo : Nat) : Int) := by (first | lia | omega)
  rw [e2]
  refine max_bt (a := 1) (b := a - lo) r.h fun t15 u15 G15 => ?_
  have i15 := ((i14.tok _).go G15)
  refine ⟨i15.c, ?_⟩
  have e3 : ((tt :: seg.reverse).drop 1).take ((tt :: seg.reverse).length - 1) = seg.reverse := by
    rw [List.drop_succ_cons, List.drop_zero]
    apply List.take_of_length_le
    simp
  rw [e3]
  refine swap_bt i15.c (r.mono (by (first | lia | omega))) (by simp; (first | lia | omega)) (by rw [List.length_reverse, hlen]) fun t16 u16 G16 => ?_
  have i16 := i15.go G16
  rw [List.reverse_reverse]
  refine add_bt (by simp; (first | lia | omega)) fun t17 tk17 => ?_
  have i17 := i16.tok tk17
  have N17 := i17.N
  refine D.of (slice_bt ?_ (fun _ _ => rfl))
  refine ld (fmJO L) N17 (v := .bytes (Bt R) t) (by rfl) rfl rfl ?_
  rw [evalPart_some]
  x_close
  rw [evalPart_none]
  refine wpAny_pure ?_
  refine ⟨R, t, some ((a + 2 : Nat) : Int), none, a + 2, R.length, rfl, by (first | lia | omega), .int _ _, .none, sl_bounds (by (first | lia | omega)), fun t18 u18 _ G18 => ?_⟩
  have i18 := (i17.tok _).go G18
  refine add_bt (by simp; (first | lia | omega)) fun t19 tk19 => ?_
  have i19 := i18.tok tk19
  have e4 : (R.drop 0).take (lo - 0) ++ ((tt :: seg.reverse).drop 0).take (1 - 0) ++ seg ++ (R.drop (a + 2)).take (R.length - (a + 2)) = R.take lo ++ [tt] ++ seg ++ R.drop (a + 2) := by
    have : (R.drop (a + 2)).take (R.length - (a + 2)) = R.drop (a + 2) := List.take_of_length_le (by simp)
    rw [this]
    simp
  rw [e4]
  refine i19.store [("weights", .ref aw), ("row", .bytes (Bt (R.take lo ++ [tt] ++ seg ++ R.drop (a + 2))) t19), ("joined", .ref j), ("at", .int a t1), ("low", .int lo t3)] (fmJO L) rfl rfl (by rfl) fun u20 i20 _ => ?_
  exact hQ u20 t19 i20
end
end Mine
end

/-! Cu -/
section
open PySem PySem.W PySem.W.X PyProof.Rows PySem.Calls
open Sem (wp)
set_option Elab.async false
set_option maxRecDepth 100000
set_option maxHeartbeats 1000000
namespace Mine
section
variable {w : World} {A : Around} {s : Shared} {env : Env}
/-- y = [elt for .. in iter ..]: the store comes ahead of the names' going -/
theorem lcompU {elt target iter : Expr} {ifs : List Expr} {scope : Scope} {pos spos py : Pos} {y : Str} {cl : List (Str × Addr)} {Q : Flow → Shared → Prop} (f : Fm env) (hy : env.kindOf y = some .local)
    (hsw : swapsWith (.ListComp elt [⟨target, iter, ifs, 0⟩] scope pos) (some (.Name y py)) spos.line env = Pure.pure true) (hclos : closureFor scope env = Pure.pure cl) (hkind : scope.kind = .function)
    (hnames : (scope.names.all fun x => x.2 != .local || scope.names.lookup x.1 == some .local) = true) (hs : ∀ x, foldedSetIterable iter env x = Pure.pure x)
    (h : wpN w A (eval iter env) (fun x s₁ => wpN w A (pyIter x) (fun it s₂ => ∃ I fp wr n P St, it = .ref I ∧ Walks pr w A I fp wr n P St ∧ St 0 s₂.heap ∧ n ≤ 1000 ∧ (∀ b ∈ fp, b < s₂.heap.objs.size) ∧ (∃ o, s₂.heap.get? env.locals = some o) ∧
      ∀ (a C : Nat), s₂.heap.objs.size = a → C = a + 1 → ∃ U : Nat → List Value → Shared → Prop,
        (∀ i vs s h' tk, U i vs s → (∀ b o, b ∉ a :: wr → s.heap.get? b = some o → h'.get? b = some o) → U i vs { s with heap := h', toks := tk }) ∧
        (∀ i v vs s, i < n → P i v → St (i + 1) s.heap → U i vs s → Ls s.heap a vs → wpN w A (letOwnedTupleGo target (.ref I) v) (fun _ s1 => wpN w A (assign target (cEnv scope cl C env) v) (fun _ s2 => wpN w A (tests ifs (cEnv scope cl C env)) (fun ok s3 =>
          if ok = true then wpN w A (eval elt (cEnv scope cl C env)) (fun r s4 => U (i + 1) (vs ++ [r]) s4 ∧ ∀ b ∈ a :: fp, ∀ o, s.heap.get? b = some o → s4.heap.get? b = some o) s3
          else U (i + 1) vs s3 ∧ ∀ b ∈ a :: fp, ∀ o, s.heap.get? b = some o → s3.heap.get? b = some o) s2) s1) s) ∧
        (∀ h' , (∀ b o, s₂.heap.get? b = some o → h'.get? b = some o) → Nl h' C [] → CellsOk h' (C + 1) (cellsFrom (C + 1) scope.names []) → U 0 [] { s₂ with heap := h' }) ∧
        (∀ i vs s, U i vs s → Nl s.heap C []) ∧
        (∀ vs s', U n vs s' → Ls s'.heap a vs → ∃ l l', Nl s'.heap env.locals l ∧ l'.map (fun p => ((y, .ref a) :: l).lookup p.1) = l'.map (fun p => some p.2) ∧
          ∀ h1 h', Nl h1 env.locals l' → Heap.SameBut env.locals s'.heap h1 → Nl h1 C [] → Heap.SameBut C h1 h' → Ls h' a vs → Q .next { s' with heap := h', toks := s'.toks + 1 })) s₁) s) :
    wpN w A (exec (.Assign [.Name y py] (.ListComp elt [⟨target, iter, ifs, 0⟩] scope pos) spos) env) Q s := by
  rw [exec_Assign_Name_used _ _ _ _ hsw]
  refine wpAny_bind (wpAny_standAt (wpAny_bind ?_))
  show wpAny _ A (do let _ ← comprehension (.ListComp elt [⟨target, iter, ifs, 0⟩] scope pos) scope env _ (newList []) false (eval iter env) (some (assign (.Name y py) env))) _ _ s
  refine wpAny_bind (wpAny_mono (wpAny_comprehension_free (cl := cl) (use := some (assign (.Name y py) env)) (Q := fun _ s' => Q .next s') rfl hs hclos hkind (fun x hx hl => ?_) (wpAny_mono h (fun x s₁ h₁ => wpAny_mono h₁ (fun it s₂ h₂ => ?_) fun _ _ z => z) fun _ _ z => z))
    (fun _ s' hq => wpAny_pure (wpAny_pure hq)) fun _ _ e => e)
  · have := List.all_eq_true.mp hnames x hx
    rw [hl] at this
    simpa using this
  obtain ⟨I, fp, wr, n, P, St, rfl, W, hSt, hn, hfp, ⟨oL, hoL⟩, h₂⟩ := h₂
  obtain ⟨U, stab, turn, start, ns, fin⟩ := h₂ s₂.heap.objs.size (s₂.heap.objs.size + 1) rfl rfl
  have hLlt : @LT.lt Nat _ env.locals s₂.heap.objs.size := ltN hoL
  refine wpAny_newObj_type ?_ (by size_fits)
  have k1 : ∀ b o, s₂.heap.get? b = some o → (s₂.heap.push { cls := .type "list", data := .seq #[] }).get? b = some o := fun b o e => Heap.get?_push_of_some _ e
  refine wp_cenv fun h₄ hk₄ N4 ok4 => ?_
  have eS : (s₂.heap.push { cls := .type "list", data := .seq #[] }).objs.size = s₂.heap.objs.size + 1 := Heap.size_push ..
  have N4 : Nl h₄ (s₂.heap.objs.size + 1) [] := eS ▸ N4
  have ok4 : CellsOk h₄ (s₂.heap.objs.size + 1 + 1) (cellsFrom (s₂.heap.objs.size + 1 + 1) scope.names []) := eS ▸ ok4
  have k4 : ∀ b o, s₂.heap.get? b = some o → h₄.get? b = some o := fun b o e => hk₄ b o (k1 b o e)
  have hL4 : Ls h₄ s₂.heap.objs.size [] := ⟨_, hk₄ _ _ (Heap.get?_push_size _ rfl)⟩
  have hSt4 : St 0 h₄ := W.frame _ _ _ hSt fun b _ o e => k4 b o e
  have haf : s₂.heap.objs.size ∉ fp := fun hm => absurd (hfp _ hm) (Nat.lt_irrefl _)
  have loop := comp_loop (env := cEnv scope cl (s₂.heap.objs.size + 1) env) (iter := iter) (scope := scope) (pos := pos) W U hn haf stab turn (s := { s₂ with heap := h₄ }) hSt4 (start h₄ k4 N4 ok4) hL4
  have loop' : codeAny (model pr w) A (.compStart (.ListComp elt [⟨target, iter, ifs, 0⟩] scope pos) 0 (.ref I) (.ref s₂.heap.objs.size) (cEnv scope cl (s₂.heap.objs.size + 1) env)) (fun r s' => r = .ok .next ∧ ∃ vs, U n vs s' ∧ Ls s'.heap s₂.heap.objs.size vs) { s₂ with heap := h₄ } :=
    codeAny_compStart_list loop (W.self 0 _ _ _ hSt4 loop)
  have fin' : ∀ r s', (r = .ok .next ∧ ∃ vs, U n vs s' ∧ Ls s'.heap s₂.heap.objs.size vs) → compPost (model pr w) A No (some (assign (.Name y py) env)) (fun _ s' => Q .next s') (.ref s₂.heap.objs.size) (s₂.heap.objs.size + 1) r s' := by
    rintro r s' ⟨rfl, vs, hU, hL⟩
    have NC := ns _ _ _ hU
    obtain ⟨l, l', NL, e, fin⟩ := fin vs s' hU hL
    refine assignN f NL hy e fun h1 N1 hs1 => ?_
    have NC1 : Nl h1 (s₂.heap.objs.size + 1) [] := NC.but hs1 (neN (by (first | lia | omega)))
    obtain ⟨m, hm, _⟩ := id NC1
    refine ⟨m, hm, fun h' sb => ?_⟩
    exact fin h1 h' N1 hs1 NC1 sb ((hL.keeps fun o e => hs1.extBut _ _ (neN (by (first | lia | omega))) e).keeps fun o e => sb.extBut _ _ (neN (by (first | lia | omega))) e)
  have := codeAny_mono loop' fin'
  unfold cEnv at this
  rw [← eS] at this
  exact this
end
section
variable {w : World} {A : Around} {s0 st s s' : Shared} {L x d j : Nat} {l l' : List (Str × Value)} {ps ps' tx : List (List Nat)} {env : Env}
/-- another frame's dict is written -/
theorem Jb.butC (b : Jb w s0 st s L x d j l ps tx) {C : Nat} {lC : List (Str × Value)} {h' : Heap} {tk : Nat} (N : Nl s.heap C lC) (h1 : j < C) (h2 : s0.heap.objs.size ≤ C) (hs : Heap.SameBut C s.heap h') :
    Jb w s0 { s with heap := h', toks := tk } { s with heap := h', toks := tk } L x d j l ps tx := by
  have hxj := b.xj
  have hlx := b.lx
  obtain ⟨vs0, hj0, hjt⟩ := b.jl
  have ntp : ∀ a b ta tb, s.heap.get? C ≠ some (tpO a b ta tb) := by
    obtain ⟨oL, es, ep, eL, dL⟩ := N.dict
    intro a b ta tb e
    rw [e] at eL
    cases eL
    cases dL
  refine ⟨⟨b.b.n.but hs (neN (by (first | lia | omega))), ?_, b.b.g.same hs h2, .refl _ _, b.b.c0, b.b.l0, b.b.lx, b.b.ld, by simp, by simp⟩, ?_, b.lx, ⟨vs0, hj0.keeps fun o e => hs.extBut _ _ (neN (by (first | lia | omega))) e, hjt⟩, b.xj⟩
  · obtain ⟨xs, a, t⟩ := b.b.q
    obtain ⟨n, ho⟩ := a.ob
    obtain ⟨od, hd', D⟩ := a.di
    refine ⟨xs, ⟨⟨n, hs.extBut _ _ (neN (by (first | lia | omega))) ho⟩, ⟨od, hs.extBut _ _ (neN (by (first | lia | omega))) hd', D⟩, a.lo⟩, t.1, fun i p hp => ?_⟩
    obtain ⟨v, e1, t, ta, tb, e2, e3, e4⟩ := t.2 i p hp
    refine ⟨v, e1, t, ta, tb, e2, e3, hs.extBut _ _ ?_ e4⟩
    rintro rfl
    exact ntp _ _ _ _ e4
  · obtain ⟨o, e, q⟩ := b.ce
    exact ⟨o, hs.extBut _ _ (neN (by (first | lia | omega))) e, q⟩
end
end Mine
end

/-! Jd -/
section
open PySem PySem.W PySem.W.X PyProof.Rows PySem.Calls
open Sem (wp)
set_option Elab.async false
set_option maxRecDepth 100000
set_option maxHeartbeats 1000000
namespace Mine
section
variable {w : World} {A : Around} {s0 st s s' : Shared} {L x d j : Nat} {l : List (Str × Value)} {ps ps' tx : List (List Nat)} {env : Env}
theorem Jb.plC (b : Jb w s0 st s L x d j l ps tx) {C : Nat} {lC : List (Str × Value)} {a : Nat} {qs : List (List Nat)} {h' : Heap} (N : Nl s.heap C lC) (p : Pl s.heap a qs) (hs : Heap.SameBut C s.heap h') : Pl h' a qs := by
  obtain ⟨oL, es, ep, eL, dL⟩ := N.dict
  refine p.ext hs.extBut ?_ fun a' b' ta tb e => ?_
  · rintro rfl
    obtain ⟨vs, ⟨n, e⟩, t⟩ := p
    rw [e] at eL
    cases eL
    cases dL
  · rw [e] at eL
    cases eL
    cases dL
/-- y = [line.pop() for k in range(m)] -/
theorem pops_a {p1 p2 p3 p4 p5 p6 pos py spos : Pos} {e : Expr} {scope : Scope} {cl : List (Str × Addr)} {m : Nat} {y : Str} {l' : Nat → List (Str × Value)} {Q : Flow → Shared → Prop} (f : Fm env) (hLe : env.locals = L) (r : Rm 3 A) (B : Jb w s0 st s L x d j l ps tx) (hz : ps.length ≤ 100) (hm : m ≤ ps.length)
    (hy : env.kindOf y = some .local) (hyl : ∀ a, (l' a).map (fun p => ((y, .ref a) :: l).lookup p.1) = (l' a).map (fun p => some p.2))
    (hsw : swapsWith (.ListComp (.Call (.Attribute (.Name "line" p1) "pop" p2) [] [] p3) [⟨.Name "k" p4, .Call (.Name "range" p5) [e] [] p6, [], 0⟩] scope pos) (some (.Name y py)) spos.line env = Pure.pure true)
    (hclos : closureFor scope env = Pure.pure cl) (hkind : scope.kind = .function) (hnames : (scope.names.all fun x => x.2 != .local || scope.names.lookup x.1 == some .local) = true)
    (h1 : (cEnv scope cl 0 env).kindOf "k" = some .local) (h2 : (cEnv scope cl 0 env).kindOf "line" = some .cell) (h3 : ∀ C, (cEnv scope cl C env).cells.lookup ("line" : Str) = some (L + 1)) (hr : env.kindOf "range" = some .globalImplicit)
    (hs : starEach [e] env = (false, eval e env) :: starEach [] env) (hs2 : backTo p6 (starEach [e] env) = [(false, eval e env)])
    (he : ∀ {Q : Value → Shared → Prop}, (∀ t tk, Q (.int m t) { s with toks := tk }) → wpN w A (eval e env) Q s)
    (hev : ∀ C, ∃ pl : Sem Bool, eval (.Call (.Attribute (.Name "line" p1) "pop" p2) [] [] p3) (cEnv scope cl C env) = (do
      let ov ← attributeBase (.Name "line" p1) "pop" (cEnv scope cl C env) (eval (.Name "line" p1) (cEnv scope cl C env))
      standAt p2.atName
      let (f, first) ← holding [ov] (getMethod ov "pop" pl)
      callWith p3 f first (backTo p3 (starEach [] (cEnv scope cl C env))) []))
    (hab : ∀ C, attributeBase (.Name "line" p1) "pop" (cEnv scope cl C env) (eval (.Name "line" p1) (cEnv scope cl C env)) = eval (.Name "line" p1) (cEnv scope cl C env))
    (hQ : ∀ (a : Nat) s', Pl s'.heap a (ps.drop (ps.length - m)).reverse → s.heap.objs.size ≤ a → Jb w s0 s' s' L x d j (l' a) (ps.take (ps.length - m)) tx → (∀ qs b, Pl s.heap b qs → 135 ≤ b → Pl s'.heap b qs) → Q .next s') :
    wpN w A (exec (.Assign [.Name y py] (.ListComp (.Call (.Attribute (.Name "line" p1) "pop" p2) [] [] p3) [⟨.Name "k" p4, .Call (.Name "range" p5) [e] [] p6, [], 0⟩] scope pos) spos) env) Q s := by
  subst hLe
  have c := B.c
  have hce := B.ce
  have hcc : 135 ≤ env.locals + 1 := Nat.le_succ_of_le B.b.L135
  have hcx := B.lx
  obtain ⟨xs, ac, tp⟩ := id B.b.q
  have hsz : xs.size = ps.length := by rw [tp.1, pcs_len, stkOf_len]
  rw [pcs_of] at tp
  have hxl : xs.toList.length = ps.length := by simpa using hsz
  refine lcompU (cl := cl) f hy hsw hclos hkind hnames (fun _ => rfl) (callT f c hr (b_range _) rfl hs rfl (sp1 hs2 (he fun tr tkr => ?_)))
  refine range1 (by (first | lia | omega)) fun I h2' tk3 hI hIs hk2 => ?_
  have hIs : s.heap.objs.size ≤ I := hIs
  have hIz : I < h2'.objs.size := ltN hI
  obtain ⟨n, ho⟩ := id ac.ob
  obtain ⟨od, hd, _⟩ := id ac.di
  have hx : x < s.heap.objs.size := ltN ho
  have hdl : d < s.heap.objs.size := ltN hd
  have hju : j < s.heap.objs.size := by obtain ⟨vs, ⟨n, e⟩, _⟩ := B.jl; exact ltN e
  have lx := ac.lo.1
  obtain ⟨oL, esL, epL, eL, dL⟩ := B.b.n.dict
  refine ⟨I, [I], [I], m, _, _, rfl, Walks.range (A := A) r.h I 0 1 _, hI, by (first | lia | omega), ?_, ⟨oL, hk2 _ _ eL⟩, fun aa C haa hC => ?_⟩
  · intro b hb'
    obtain rfl : b = I := by simpa using hb'
    exact hIz
  have haa : h2'.objs.size = aa := haa
  refine ⟨fun i us s5 => us = xs.toList.reverse.take i ∧ Acc s5.heap x d (xs.toList.take (ps.length - i)).toArray ∧ Nl s5.heap C [] ∧ Go [x] s s5, ?_, ?_, ?_, ?_, ?_⟩
  · rintro i us s5 h' tk ⟨u1, u2, u3, u4⟩ hk
    refine ⟨u1, ?_, u3.keeps fun o e => hk _ _ (ni2 ⟨by (first | lia | omega), by (first | lia | omega)⟩) e, u4.ext hk ?_⟩
    · obtain ⟨n5, ho5⟩ := u2.ob
      obtain ⟨od5, hd5, D5⟩ := u2.di
      exact ⟨⟨n5, hk _ _ (ni2 ⟨by (first | lia | omega), by (first | lia | omega)⟩) ho5⟩, ⟨od5, hk _ _ (ni2 ⟨by (first | lia | omega), by (first | lia | omega)⟩) hd5, D5⟩, u2.lo⟩
    · intro b hb'
      simp only [List.mem_cons, List.not_mem_nil, or_false] at hb'
      rcases hb' with rfl | rfl
      · show @LE.le Nat _ _ _; (first | lia | omega)
      · exact hIs
  · rintro i v us s5 hi' ⟨tv, rfl⟩ hSt ⟨u1, u2, u3, u4⟩ hLs
    refine wpAny_pure (assignN (env := cEnv scope cl C env) (fm_c f hkind) u3 h1 (l' := [("k", .int (0 + (i : Int) * 1) tv)]) (by rfl) fun h6 N6 hs6 => ?_)
    refine wpAny_pure ?_
    rw [if_pos rfl]
    have hs6 : Heap.SameBut C s5.heap h6 := hs6
    have G6 : Go [x] s { s5 with heap := h6, toks := s5.toks + 1 } := u4.same hs6 (by show s.heap.objs.size ≤ C; (first | lia | omega))
    have c6 := G6.cx (by simpa using lx) c
    have hce6 : h6.IsCell (env.locals + 1) (some (.ref x)) := cell_goX (s' := { s5 with heap := h6, toks := s5.toks + 1 }) hce G6 hcc (Nat.ne_of_lt hcx)
    have a6 : Acc h6 x d (xs.toList.take (ps.length - i)).toArray := by
      obtain ⟨n5, ho5⟩ := u2.ob
      obtain ⟨od5, hd5, D5⟩ := u2.di
      exact ⟨⟨n5, hs6.extBut _ _ (neN (by (first | lia | omega))) ho5⟩, ⟨od5, hs6.extBut _ _ (neN (by (first | lia | omega))) hd5, D5⟩, u2.lo⟩
    obtain ⟨pl, hev'⟩ := hev C
    refine accM (kPO _) (f_pop _) (t_pop' _) rfl hev' (hab C) (ldc (fm_c f hkind) hce6 (h3 C) h2 rfl ⟨x, d, _, rfl, c6, a6, evalArgs_nil3 ⟨rfl, c6, ?_⟩⟩)
    have hlt : ps.length - i - 1 < xs.toList.length := by (first | lia | omega)
    have e1 : xs.toList.take (ps.length - i) = xs.toList.take (ps.length - i - 1) ++ [xs.toList[ps.length - i - 1]] := by
      have : ∀ j (hj : j < xs.toList.length), xs.toList.take (j + 1) = xs.toList.take j ++ [xs.toList[j]] := fun j hj => by
        rw [List.take_add_one, List.getElem?_eq_getElem hj]
        rfl
      have := this (ps.length - i - 1) hlt
      rwa [show ps.length - i - 1 + 1 = ps.length - i by (first | lia | omega)] at this
    refine pop_call c6 r a6 (by simp; (first | lia | omega)) (fun h0 => ?_) fun ys y hy s7 a7 G7 => ?_
    · have h00 : (xs.toList.take (ps.length - i)).length = 0 := by
        have h01 := congrArg Array.size h0
        rwa [List.size_toArray] at h01
      rw [List.length_take, hxl] at h00
      (first | lia | omega)
    · have hy' : xs.toList.take (ps.length - i) = ys.toList ++ [y] := by
        have := congrArg Array.toList hy
        simpa using this
      rw [e1] at hy'
      obtain ⟨hy1, hy2⟩ := List.append_inj' hy' rfl
      have hy2 : xs.toList[ps.length - i - 1] = y := by simpa using hy2
      have ey : ys = (xs.toList.take (ps.length - (i + 1))).toArray := by
        rw [show ps.length - (i + 1) = ps.length - i - 1 by (first | lia | omega), hy1]
      subst ey
      refine ⟨⟨?_, a7, ?_, G6.trans G7⟩, ?_⟩
      · rw [List.take_add_one, u1, List.getElem?_reverse (by (first | lia | omega)), List.getElem?_eq_getElem (by (first | lia | omega)), ← hy2]
        simp only [Option.toList_some]
        congr 2
        congr 1
        (first | lia | omega)
      · have hC135 : 135 ≤ C := by have := c.size; (first | lia | omega)
        obtain ⟨m', hm', hmm⟩ := N6
        obtain ⟨oC, es, ep, eC, r'⟩ := hm'
        exact ⟨m', ⟨oC, es, ep, G7.getW eC hC135 (ni1 (by (first | lia | omega))), r'⟩, fun _ _ z => nomatch z⟩
      · intro b hb' o e
        simp only [List.mem_cons, List.not_mem_nil, or_false] at hb'
        have h135 : (135 : Nat) ≤ s.heap.objs.size := c.size
        rcases hb' with rfl | rfl
        · exact G7.getW (hs6.extBut _ o (neN (by (first | lia | omega))) e) (by show @LE.le Nat _ 135 _; (first | lia | omega)) (ni1 (by (first | lia | omega)))
        · exact G7.getW (hs6.extBut _ o (neN (by (first | lia | omega))) e) (by show @LE.le Nat _ 135 _; (first | lia | omega)) (ni1 (by (first | lia | omega)))
  · intro h' hk' N' _
    refine ⟨by simp, ?_, N', (Go.refl [x] s).new fun b o e => hk' b o (hk2 b o e)⟩
    have : (xs.toList.take (ps.length - 0)).toArray = xs := by
      rw [Nat.sub_zero, List.take_of_length_le (by (first | lia | omega))]
    rw [this]
    exact ac.keeps fun b o e => hk' b o (hk2 b o e)
  · exact fun i us s5 u => u.2.2.1
  · rintro us s' ⟨u1, u2, u3, u4⟩ hLs
    have tp' := tp.goX ac u4
    have q' : Stk s'.heap x d (stkOf (ps.take (ps.length - m))) := ⟨(xs.toList.take (ps.length - m)).toArray, u2, by rw [pcs_of, List.map_take]; exact tp'.take _⟩
    have B3 := B.goX q' u4
    have P3 : Pl s'.heap aa (ps.drop (ps.length - m)).reverse := ⟨us, hLs, by
      rw [u1, List.take_reverse, hxl, List.map_reverse, List.map_drop]
      exact (tp'.drop (ps.length - m)).rev⟩
    refine ⟨l, l' aa, B3.b.n, hyl aa, fun h1 h' N1 hs1 NC sb hLs' => ?_⟩
    have B4 := B3.setX (tk := s'.toks + 1) N1 hs1.extBut
    have hl0 := B.b.l0
    have hLu : @LT.lt Nat _ env.locals s.heap.objs.size := ltN eL
    have B5 := B4.butC (tk := s'.toks + 1) (lC := []) NC (by (first | lia | omega)) (by (first | lia | omega)) sb
    refine hQ aa _ (B4.plC (lC := []) NC (B3.plL P3 hs1) sb) (by (first | lia | omega)) B5 fun qs b p hb => ?_
    exact B4.plC (lC := []) NC (B3.plL (B.plX p hb u4) hs1) sb
end
end Mine
end

/-! Js -/
section
open PySem PySem.W PySem.W.X PyProof.Rows PySem.Calls
open Sem (wp)
set_option Elab.async false
set_option maxRecDepth 100000
set_option maxHeartbeats 1000000
namespace Mine
theorem f_pf (P : Params) : findIn (KF P) (.ref 108) "pop_from" = some (some (.ref 60)) := by kernel_rfl
theorem t_pf (P : Params) : typeIn (KF P) (.ref 60) = some (.type "function") := by kernel_rfl
theorem Tps.ext {h h' : Heap} {z : Addr} {xs : Array Value} {ps : List (Str × Str)} (t : Tps h xs ps) (hk : ∀ b o, b ≠ z → h.get? b = some o → h'.get? b = some o) (ho : ∀ a b ta tb, h.get? z ≠ some (tpO a b ta tb)) : Tps h' xs ps := by
  refine ⟨t.1, fun i q hq => ?_⟩
  obtain ⟨v, e1, t, ta, tb, e2, e3, e4⟩ := t.2 i q hq
  refine ⟨v, e1, t, ta, tb, e2, e3, hk _ _ ?_ e4⟩
  rintro rfl
  exact ho _ _ _ _ e4
theorem Go.tps {s s' : Shared} {xs : Array Value} {ps : List (Str × Str)} (G : Go [] s s') (t : Tps s.heap xs ps) : Tps s'.heap xs ps := t.go G
theorem Nl.no_tp {h : Heap} {L : Addr} {l : List (Str × Value)} (N : Nl h L l) : ∀ a b ta tb, h.get? L ≠ some (tpO a b ta tb) := by
  obtain ⟨oL, es, ep, eL, dL⟩ := N.dict
  intro a b ta tb e
  rw [e] at eL
  cases eL
  cases dL
section
variable {w : World} {A : Around} {s : Shared} {env : Env}
theorem ev1 {f : Value} {e : Expr} {pos : Pos} {Q : Args → Shared → Prop} (hst : backTo pos (starEach [e] env) = [(false, eval e env)]) (h : wpN w A (eval e env) (fun v s₂ => Q ⟨[v], []⟩ s₂) s) : wpN w A (evalArgs f true (backTo pos (starEach [e] env)) []) Q s := by
  rw [hst]
  exact evalArgs_plain (spliced_cons (wpAny_mono h (fun v s₁ h₁ => spliced_nil h₁) fun _ _ z => z))
local macro_rules | `(tactic| x_close) => `(tactic| (repeat (first | with_reducible refine wpAny_BinOp ?_ | ((with_reducible apply ld (fmJO _)); assumption; rfl; rfl; rfl) | with_reducible refine wpAny_Constant_int ?_ | with_reducible refine wpAny_Constant_str ?_ | with_reducible refine add_int ?_ | with_reducible refine sub_int ?_)))
theorem jo_rest {bR : Value} {s0 st u : Shared} {L x d j : Nat} {aw : Nat} {t1 t3 : Tok} {ps tx : List (List Nat)} {Q : Flow → Shared → Prop} {a lo : Nat} (r : Rm 6 A) (hla : lo ≤ a) (ha : a + 1 < ps.length) (h6 : ps.length ≤ 6) (h48 : ∀ p ∈ ps, p.length ≤ 48) (htx : tx.length ≤ 6)
    (B : Jb w s0 st u L x d j [("weights", .ref aw), ("row", bR), ("joined", .ref j), ("at", .int a t1), ("low", .int lo t3)] ps tx)
    (hQ : ∀ st' u', Jb w s0 st' u' L x d j [("weights", .ref aw), ("row", bR), ("joined", .ref j)] (ps.take lo ++ [ps.getD a [] ++ ps.getD (a + 1) []] ++ (ps.take a).drop lo ++ ps.drop (a + 2)) (tx ++ [ps.getD a [] ++ ps.getD (a + 1) []]) → Q .next u') :
    wpN w A (execs (joW.drop 8) (eJO L)) Q u := by
  have N := B.b.n
  have hpa : (ps.getD a []).length ≤ 48 := by
    rw [List.getD_eq_getElem?_getD, List.getElem?_eq_getElem (by (first | lia | omega))]
    exact h48 _ (List.getElem_mem _)
  have hpb : (ps.getD (a + 1) []).length ≤ 48 := by
    rw [List.getD_eq_getElem?_getD, List.getElem?_eq_getElem (by (first | lia | omega))]
    exact h48 _ (List.getElem_mem _)
  -- rest = line.pop_from(at)
  obtain ⟨xs, ac, tp⟩ := id B.b.q
  refine seqn (asg (accM (kPF _) (f_pf _) (t_pf _) rfl (by rfl) (by rfl) (ldc (fmJO L) B.ce (by rfl) rfl rfl ⟨x, d, xs, rfl, B.c, ac, ev1 (by rfl) (ld (fmJO L) N (v := .int a t1) (by rfl) rfl rfl ⟨rfl, B.c, ?_⟩)⟩)) (by rfl))
  refine popfrom_stk B.c (r.mono (by (first | lia | omega))) B.b.q (by (first | lia | omega)) (by (first | lia | omega)) fun lr u1 hlr P1 q1 G1 => ?_
  have B1 := B.goX q1 G1
  refine B1.store [("weights", .ref aw), ("row", bR), ("joined", .ref j), ("at", .int a t1), ("low", .int lo t3), ("rest", .ref lr)] (fmJO L) rfl rfl (by rfl) fun u2 B2 hs2 => ?_
  have P2 := B1.plL P1 hs2
  have hju : j < u.heap.objs.size := by obtain ⟨vs, ⟨n, e⟩, _⟩ := B.jl; exact ltN e
  have hlr135 : 135 ≤ lr := Nat.le_trans B.c.size hlr
  have hlrj : lr ≠ j := by (first | lia | omega)
  have N := B2.b.n
  -- passed
  have hta : (ps.take a).length = a := by simp; (first | lia | omega)
  refine seqn (pops_a (L := L) (cl := [("line", L + 1)]) (m := a - lo) (l' := fun lp => [("weights", .ref aw), ("row", bR), ("joined", .ref j), ("rest", .ref lr), ("passed", .ref lp)]) (fmJO L) rfl (r.mono (by (first | lia | omega))) B2 (by (first | lia | omega)) (by (first | lia | omega)) rfl (fun _ => by rfl) (by rfl) (by rfl) rfl (by rfl) rfl rfl (fun _ => by rfl) rfl rfl rfl (fun {Q} h => ?_) (fun C => ⟨_, by rfl⟩) (fun C => by rfl) fun lp u4 Pp hlp B4 hP => ?_)
  · x_close
    have e : ((a : Int) - lo) = ((a - lo : Nat) : Int) := by (first | lia | omega)
    rw [e]
    exact h _ _
  rw [hta, show a - (a - lo) = lo by (first | lia | omega)] at Pp B4
  rw [List.take_take, Nat.min_eq_left hla] at B4
  have Pr := hP _ _ P2 hlr135
  have hju2 : j < u2.heap.objs.size := by obtain ⟨vs, ⟨n, e⟩, _⟩ := B2.jl; exact ltN e
  have hlp135 : 135 ≤ lp := Nat.le_trans B2.c.size hlp
  have hlpj : lp ≠ j := by (first | lia | omega)
  have N := B4.b.n
  clear P1 P2 q1 B1 G1 hs2 hP
  -- joined.append(rest[0][1] + rest[1][1])
  obtain ⟨vs, hjl, hjt⟩ := B4.jl
  obtain ⟨vr, hrl, hrt⟩ := id Pr
  obtain ⟨v0, ev0, T0⟩ := Tps.at hrt (k := 0) (by simp; (first | lia | omega))
  obtain ⟨v1, ev1', T1⟩ := Tps.at hrt (k := 1) (by simp; (first | lia | omega))
  have g0 : (ps.drop a).getD 0 [] = ps.getD a [] := by simp
  have g1 : (ps.drop a).getD 1 [] = ps.getD (a + 1) [] := by simp
  rw [g0] at T0
  rw [g1] at T1
  refine seqn (wpAny_Expr_any (app_e (by rfl) (by rfl) (fun h => ld (fmJO L) N (v := .ref j) (by rfl) rfl rfl h) (by rfl) (by rfl) hjl (by have := hjt.len; (first | lia | omega)) (wpAny_BinOp (sub_const (sub_const ?_)))))
  refine ld (fmJO L) N (v := .ref lr) (by rfl) rfl rfl ?_
  x_close
  refine sub_ls (k := 0) (vs := vr) (by exact hrl) (by (first | lia | omega)) ev0 ?_
  x_close
  refine tp_at (v := v0) (a := S []) (b := S (ps.getD a [])) (by exact T0) (.inr rfl) fun tA => ?_
  rw [if_neg (by decide)]
  refine sub_const (sub_const ?_)
  refine ld (fmJO L) (B4.tok _).b.n (v := .ref lr) (by rfl) rfl rfl ?_
  x_close
  refine sub_ls (k := 1) (vs := vr) (by exact hrl) (by (first | lia | omega)) ev1' ?_
  x_close
  refine tp_at (v := v1) (a := S []) (b := S (ps.getD (a + 1) [])) (by exact T1) (.inr rfl) fun tB => ?_
  rw [if_neg (by decide)]
  refine add_s (by (first | lia | omega)) fun tC tkC => ⟨hjl, fun h5 hL5 hs5 => ?_⟩
  generalize hJ : ps.getD a [] ++ ps.getD (a + 1) [] = J at hL5 hQ ⊢
  have hJl : J.length ≤ 96 := by rw [← hJ, List.length_append]; (first | lia | omega)
  have B5 := (B4.tok tkC).app hL5 hjt.snoc hs5
  have Pr5 : Pl h5 lr (ps.drop a) := (B4.tok tkC).plJ Pr hlrj hs5
  have Pp5 : Pl h5 lp ((ps.take a).drop lo).reverse := (B4.tok tkC).plJ Pp hlpj hs5
  have N := B5.b.n
  -- line.push('', joined[-1])
  refine seqn (wpAny_Expr_any (push_e (pc := (0, J)) B5.c (r.mono (by (first | lia | omega))) B5.b.q (by rw [stkOf_len]; simp; (first | lia | omega)) (by rfl) (by rfl) (fun h => ldc (fmJO L) B5.ce (by rfl) rfl rfl h) rfl ?_ fun u6 q6 G6 => ?_))
  · x_close
    refine sub_un ?_
    refine ld (fmJO L) (B5.tok _).b.n (v := .ref j) (by rfl) rfl rfl ?_
    refine uminus (k := 0) (t := 0) (wpAny_Constant_int ⟨1, _, rfl, fun t' => ?_⟩)
    refine sub_last (vs := vs) (v := .str (S J) tC) (by exact hL5) ⟨((Go.refl [] _).tok _), ⟨tkC, ?_⟩, tC, rfl⟩
    show Value.str (Str.ofString "") _ = .str (S (List.replicate 0 32)) _
    rw [S_nil]; rfl
  rw [← stkOf_snoc] at q6
  have B6 := B5.goX q6 G6
  have Pr6 := B5.plX Pr5 hlr135 G6
  have Pp6 := B5.plX Pp5 hlp135 G6
  have N := B6.b.n
  clear B4 B5 Pr Pp Pr5 Pp5 hjl hjt hrl hrt T0 T1 ev0 ev1' q6 G6 hL5 hs5
  -- for piece in passed[::-1] + rest[2:]
  obtain ⟨vp, hpl, hpt⟩ := id Pp6
  obtain ⟨vr', hrl, hrt⟩ := id Pr6
  have hvp : vp.length ≤ 6 := by have := hpt.1; simp at this; (first | lia | omega)
  have hvr : vr'.length = ps.length - a := by have := hrt.1; simpa using this
  refine seqn (exec_for (wpAny_BinOp (rev_ls ?_ (fun _ _ => rfl))) (fun _ => rfl))
  refine ld (fmJO L) N (v := .ref lp) (by rfl) rfl rfl ?_
  refine uminus (k := 0) (t := 0) (wpAny_Constant_int ⟨1, _, rfl, fun t' => ?_⟩)
  refine ⟨lp, vp, t', rfl, rfl, by exact hpl, by (first | lia | omega), fun c1 u7 hc1 hL7 hk7 G7 => ?_⟩
  have B7 := (B6.tok _).go G7
  have hpt7 : Tps u7.heap vp.toArray (((ps.take a).drop lo).reverse.map pz) := G7.tps hpt
  have hrl7 : Ls u7.heap lr vr' := hrl.keeps fun o e => hk7 _ _ e
  have hrt7 : Tps u7.heap vr'.toArray ((ps.drop a).map pz) := G7.tps hrt
  have N := B7.b.n
  refine ls_pick ?_ (fun _ _ => rfl)
  refine ld (fmJO L) N (v := .ref lr) (by rfl) rfl rfl ?_
  rw [evalPart_some]
  x_close
  rw [evalPart_none]
  refine wpAny_pure ?_
  refine ⟨lr, vr', _, _, vr'.drop 2, rfl, by exact hrl7, by (first | lia | omega), .int _ _, .none, pick_drop (k := 2) (by (first | lia | omega)), fun u8 hL8 hk8 G8 => ?_⟩
  have B8 := (B7.tok _).go G8
  have hL7' : Ls u8.heap c1 vp.reverse := hL7.keeps fun o e => hk8 _ _ e
  have hpt8 : Tps u8.heap vp.toArray (((ps.take a).drop lo).reverse.map pz) := G8.tps hpt7
  have hrt8 : Tps u8.heap vr'.toArray ((ps.drop a).map pz) := G8.tps hrt7
  refine add_ls hL7' hL8 (by simp; (first | lia | omega)) fun cc u9 hcc hL9 hk9 G9 => ?_
  have B9 := B8.go G9
  have hT9 : Tps u9.heap (vp.reverse ++ vr'.drop 2).toArray (((ps.take a).drop lo ++ ps.drop (a + 2)).map pz) := by
    rw [List.map_append]
    refine Tps.app (G9.tps ?_) (G9.tps ?_)
    · have := hpt8.rev
      rwa [← List.map_reverse, List.reverse_reverse] at this
    · have := hrt8.drop 2
      rwa [← List.map_drop, List.drop_drop] at this
  generalize hrem : (ps.take a).drop lo ++ ps.drop (a + 2) = rem at hT9
  have hrl6 : rem.length ≤ 6 := by rw [← hrem]; simp; (first | lia | omega)
  generalize hvals : vp.reverse ++ vr'.drop 2 = vals at hL9 hT9
  refine ls_iter hL9 ?_
  have hlt9 := ltN (Classical.choose_spec hL9)
  have kI : ∀ b o, u9.heap.get? b = some o → (u9.heap.push (liI cc)).get? b = some o := fun b o e => Heap.get?_push_of_some _ e
  have GI : Go [] u9 { u9 with heap := u9.heap.push (liI cc) } := .of_keeps kI
  have hsz : vals.toArray.size = rem.length := by have := hT9.1; simpa using this
  have hj9 : j < u9.heap.objs.size := by obtain ⟨vs, ⟨n, e⟩, _⟩ := B9.jl; exact ltN e
  have hcc6 : u8.heap.objs.size ≤ cc := by (first | lia | omega)
  have hj8 : j < u8.heap.objs.size := by obtain ⟨vs, ⟨n, e⟩, _⟩ := B8.jl; exact ltN e
  have hx8 := B8.xj
  have hlx8 := B8.lx
  have hc135 := B8.c.size
  refine for_ruleF (walks_sq r.h u9.heap.objs.size cc (neN (by (first | lia | omega))) vals.toArray) (fun i z => Jb w s0 z z L x d j [("weights", .ref aw), ("row", bR), ("joined", .ref j)] (ps.take lo ++ [J] ++ rem.take i) (tx ++ [J]) ∧ Tps z.heap vals.toArray (rem.map pz)) ?_ ?_ ?_
    ⟨⟨_, Heap.get?_push_size _ rfl, rfl, rfl⟩, hL9.sq.keeps fun o e => kI _ _ e⟩ ⟨?_, hT9.go GI⟩ ?_
  · rintro i h ⟨⟨o, ho, _, hd⟩, _⟩ b hb'
    obtain rfl : b = u9.heap.objs.size := by simpa using hb'
    exact ⟨_, _, ho, hd⟩
  · rintro i z h' tk ⟨b, hT⟩ hf hk
    refine ⟨b.kp hf hk ?_, hT.kp (Kp.of hf hk)⟩
    have hl0 := B9.b.l0
    have hll := B9.b.n.lt
    intro y hy
    obtain rfl : y = u9.heap.objs.size := by simpa using hy
    show @LE.le Nat _ _ _
    (first | lia | omega)
  · rintro i v z hi hv hSt ⟨b, hT⟩
    have hir : i < rem.length := by (first | lia | omega)
    obtain ⟨v', e1, T⟩ := hT.2 i (pz rem[i]) (by simp [hir])
    rw [hv] at e1
    cases e1
    refine wpAny_pure (wpAny_assign_Name (b.store [("weights", .ref aw), ("row", bR), ("joined", .ref j), ("piece", v)] (fmJO L) rfl rfl (by rfl) fun z2 b2 hs2 => ?_))
    have hT2 := hT.ext hs2.extBut b.b.n.no_tp
    have T2 := T.but b.b.n hs2
    have N := b2.b.n
    have hFl : Fld z.heap u9.heap.objs.size := by
      obtain ⟨⟨o, ho, _, hd⟩, _⟩ := hSt
      exact ⟨_, _, ho, hd⟩
    refine wpAny_execs_cons (wpAny_Expr_any (pushS_e b2.c (r.mono (by (first | lia | omega))) b2.b.q (by rw [stkOf_len]; simp; (first | lia | omega)) (by rfl) (by rfl) (fun h => ldc (fmJO L) b2.ce (by rfl) rfl rfl h) (pc := (0, rem[i])) (fun s1 G1 k1 => ?_) rfl fun z3 q3 G3 => ?_))
    · refine ld (fmJO L) (N.go G1 b2.b.L135) (v := v) (by rfl) rfl rfl ⟨rfl, G1.tp T2⟩
    rw [← stkOf_snoc] at q3
    have b3 := (b2.goX q3 G3).sub (l' := [("weights", .ref aw), ("row", bR), ("joined", .ref j)]) (by rfl)
    rw [List.append_assoc, show rem.take i ++ [rem[i]] = rem.take (i + 1) by rw [List.take_add_one, List.getElem?_eq_getElem hir]; rfl] at b3
    obtain ⟨xs3, ac3, _⟩ := b2.b.q
    refine wpAny_execs_nil ⟨rfl, ⟨b3.turn, hT2.goX ac3 G3⟩, fun y hy o ey => ?_⟩
    simp only [List.mem_cons, List.not_mem_nil, or_false] at hy
    rcases hy with rfl | rfl
    · exact b3.b.t.getW ey (by show @LE.le Nat _ 135 _; (first | lia | omega)) (b.fld hFl)
    · refine b3.b.t.getW ey (by show @LE.le Nat _ 135 y; (first | lia | omega)) ?_
      intro hm
      simp only [List.mem_cons, List.not_mem_nil, or_false] at hm
      rcases hm with h | h | h
      · exact neN (by (first | lia | omega)) h
      · exact neN (by (first | lia | omega)) h
      · exact neN (by (first | lia | omega)) h
  · have := (B9.go GI).sub (l' := [("weights", .ref aw), ("row", bR), ("joined", .ref j)]) (by rfl)
    rw [List.take_zero, List.append_nil]
    exact this.turn
  · rintro z ⟨b, _⟩
    rw [hsz, List.take_length, ← hrem, ← List.append_assoc] at b
    exact wpAny_execs_nil (hQ z z b)
end
end Mine
end

/-! Jt -/
section
open PySem PySem.W PySem.W.X PyProof.Rows PySem.Calls
open Sem (wp)
set_option Elab.async false
set_option maxRecDepth 100000
set_option maxHeartbeats 1000000
namespace Mine
theorem sum_int : ∀ r : List Nat, (r.map fun (n : Nat) => (n : Int)).sum = (r.sum : Nat)
  | [] => rfl
  | a :: r => by
    simp only [List.map_cons, List.sum_cons, sum_int r]
    push_cast
    rfl
theorem sum_le_mul : ∀ (r : List Nat) (b : Nat), (∀ k ∈ r, k ≤ b) → r.sum ≤ b * r.length
  | [], _, _ => by simp
  | a :: r, b, h => by
    have h1 := sum_le_mul r b fun k hk => h k (List.mem_cons_of_mem _ hk)
    have h2 := h a List.mem_cons_self
    simp only [List.sum_cons, List.length_cons, Nat.mul_add, Nat.mul_one]
    (first | lia | omega)
section
variable {w : World} {A : Around} {s : Shared} {env : Env}
local macro_rules | `(tactic| x_close) => `(tactic| (repeat (first | with_reducible refine wpAny_BinOp ?_ | ((with_reducible apply ld (fmJO _)); assumption; rfl; rfl; rfl) | with_reducible refine wpAny_Constant_int ?_ | with_reducible refine wpAny_Constant_str ?_ | with_reducible refine add_int ?_ | with_reducible refine sub_int ?_)))
theorem joined_call {aw : Nat} {vs : List Value} {r : List Nat} {to : Tok} {Q : Value → Shared → Prop} (c : Cx w s.heap) (tb : Tbs s.heap) (rm : Rm 8 A) (hl : Ls s.heap aw vs) (ha : 135 ≤ aw) (hi : Ints vs (r.map fun (n : Nat) => (n : Int))) (h1 : 1 ≤ r.length) (h6 : r.length ≤ 6) (hb : ∀ k ∈ r, 1 ≤ k ∧ k ≤ 8)
    (hQ : ∀ (a : Nat) us s', Ls s'.heap a us → Txs us (gw r.length (leavesN r r.length)) → 135 ≤ a → Go [] s s' → Q (.ref a) s') :
    wpD w A (PySem.call (.ref 122) [.bytes (Bt r) to, .ref aw]) Q s := by
  have has : aw < s.heap.objs.size := ltN (Classical.choose_spec hl)
  have hT48 : r.sum ≤ 48 := by
    have := sum_le_mul r 8 fun k hk => (hb k hk).2
    (first | lia | omega)
  refine jo_head c rm hl ha hi h6 hb fun L x d j t0 s1 hL hLd B1 => ?_
  have r1 := rm.deeper (env := eJO L)
  have mk : ∀ {st u l ps tx}, Jb w s st u L x d j l ps tx → (ps.map List.length).sum = r.sum → 1 ≤ ps.length → ps.length ≤ 6 → Ji w aw (r.map fun (n : Nat) => (n : Int)) s u L x d j l ps tx r.sum := by
    intro st u l ps tx b h2 h3 h4
    refine ⟨⟨st, b⟩, b.b.g.tab tb, ⟨vs, hl.go b.b.g ha, hi⟩, ⟨ha, has⟩, ⟨sum_int r, by simpa using h6, fun k hk => ?_⟩, ⟨h2, hT48⟩, h3, h4⟩
    obtain ⟨m, hm, rfl⟩ := List.mem_map.mp hk
    have := hb m hm
    (first | lia | omega)
  refine D.execs_cons (D.whl (fun n u => ∃ ps tx t, n = ps.length ∧ tx ++ gw ps.length ps = gw r.length (leavesN r r.length) ∧ tx.length + ps.length = r.length ∧
    Ji w aw (r.map fun (n : Nat) => (n : Int)) s u L x d j (lw aw j (ps.map List.length) t) ps tx r.sum) ?_ r.length ?_)
  · rintro n u ⟨ps, tx, t, rfl, hg, hlen, i⟩
    have hn := i.n
    refine D.of (wpAny_isTrue_Compare1 (pc_e i.c (r1.mono (by (first | lia | omega))) i.q (by rfl) (by rfl) (fun h => ldc (fmJO L) i.ce (by rfl) rfl rfl h) fun t1 u1 G1 => ?_))
    have i1 := i.go G1
    x_close
    refine gt_int (truthy_bool ?_)
    rw [stkOf_len]
    by_cases h2 : 2 ≤ ps.length
    · rw [if_pos (by simp; (first | lia | omega))]
      have hatl := atF_lt (ps.map List.length) (by simpa using h2)
      refine jo_find (r1.mono (by (first | lia | omega))) (i1.tok _) h2 fun u2 t1 t2 t3 a tt lo ea ett elo i2 => ?_
      have hla : lo ≤ a := by rw [elo]; exact lowF_le _ _ _
      have ha1 : a + 1 < (ps.map List.length).length := by rw [ea]; exact hatl
      have htt : tt < 256 := by
        have h3 := sum_parts (ps.map List.length) lo a hla ha1
        have h4 := i.t
        rw [ett]
        (first | lia | omega)
      refine jo_row (r1.mono (by (first | lia | omega))) rfl hla ha1 htt i2 fun u3 t' i3 => ?_
      rw [List.length_map] at ha1
      obtain ⟨st3, b3⟩ := i3.b
      refine D.of (jo_rest (r1.mono (by (first | lia | omega))) hla ha1 hn.2 i.each (by (first | lia | omega)) b3 fun st4 u4 b4 => ?_)
      have e2 : ps.take lo ++ [ps.getD a [] ++ ps.getD (a + 1) []] ++ (ps.take a).drop lo ++ ps.drop (a + 2) = (gstep ps).2 := by
        subst ea ett elo
        rfl
      have e1 : ps.getD a [] ++ ps.getD (a + 1) [] = (gstep ps).1 := by
        subst ea
        rfl
      rw [e2, e1] at b4
      have hsl := gstep_len ps h2
      have hrow := gstep_row ps a tt lo ea ett elo h2
      rw [← hrow] at b4
      refine ⟨rfl, (gstep ps).2.length, by (first | lia | omega), (gstep ps).2, tx ++ [(gstep ps).1], t', rfl, ?_, by simp; (first | lia | omega), mk b4 (by rw [gstep_sum ps h2]; exact i.t.1) (by (first | lia | omega)) (by (first | lia | omega))⟩
      rw [← hg, ← hsl]
      have : gw ((gstep ps).2.length + 1) ps = (gstep ps).1 :: gw (gstep ps).2.length (gstep ps).2 := by
        rw [gw, if_neg (by (first | lia | omega))]
      rw [this]
      simp
    · rw [if_neg (by simp; (first | lia | omega))]
      have hgz : gw ps.length ps = [] := by
        cases hp : ps.length with
        | zero => rfl
        | succ k => rw [gw, if_pos (by (first | lia | omega))]
      rw [hgz, List.append_nil] at hg
      -- the check, and what is handed back
      refine D.execs_cons (D.of (check_ok (r1.mono (by (first | lia | omega))) rfl (i1.tok _) (by rfl) rfl (by rfl) rfl rfl rfl fun u5 i5 => ?_))
      have N := i5.N
      refine D.execs_cons (D.of (wpAny_Return_some ?_))
      refine ld (fmJO L) N (v := .ref j) (by rfl) rfl rfl ?_
      obtain ⟨st5, b5⟩ := i5.b
      obtain ⟨us, hu, hut⟩ := b5.jl
      rw [hg] at hut
      exact hQ j us u5 hu hut b5.j135 b5.b.g
  · refine ⟨leavesN r r.length, [], t0, by rw [leavesN_len], by rw [leavesN_len]; rfl, by rw [leavesN_len]; simp, mk (st := s1) ?_ (by rw [leaves_row]) (by rw [leavesN_len]; exact h1) (by rw [leavesN_len]; exact h6)⟩
    rw [leaves_row]
    exact B1
end
end Mine
end

/-! La -/
section
open PySem PySem.W PySem.W.X PyProof.Rows PySem.Calls
open Sem (wp)
set_option Elab.async false
set_option maxRecDepth 100000
set_option maxHeartbeats 1000000
namespace Mine
section
variable {w : World} {A : Around} {s : Shared} {env : Env}
theorem comp_loopT {I a : Addr} {fp wr : List Addr} {n : Nat} {Pt : Nat → Array Value → Prop} {St : Nat → Heap → Prop} {Mid : Nat → Addr → Heap → Prop} {elt iter : Expr} {elts : List Expr} {kt : Nat} {pt : Pos} {ifs : List Expr} {scope : Scope} {pos : Pos} (W : WalksU pr w A I fp wr n Pt St Mid)
    (U : Nat → List Value → Shared → Prop) (hn : n ≤ 1000) (ha : a ∉ fp)
    (stab : ∀ i vs s h' tk, U i vs s → (∀ b o, b ∉ a :: wr → s.heap.get? b = some o → h'.get? b = some o) → U i vs { s with heap := h', toks := tk })
    (turn : ∀ i T vals vs s, i < n → Pt i vals → St (i + 1) s.heap → s.heap.IsTuple T vals → U i vs s → Ls s.heap a vs → wpN w A (assign (.Tuple elts kt pt) env (.ref T)) (fun _ s2 => wpN w A (tests ifs env) (fun ok s3 =>
      if ok = true then wpN w A (eval elt env) (fun r s4 => U (i + 1) (vs ++ [r]) s4 ∧ ∀ b ∈ a :: fp, ∀ o, s.heap.get? b = some o → s4.heap.get? b = some o) s3
      else U (i + 1) vs s3 ∧ ∀ b ∈ a :: fp, ∀ o, s.heap.get? b = some o → s3.heap.get? b = some o) s2) s)
    (hst : St 0 s.heap) (hu : U 0 [] s) (hl : Ls s.heap a []) :
    codeAny (model pr w) A (.compLoop (.ListComp elt [⟨.Tuple elts kt pt, iter, ifs, 0⟩] scope pos) 0 (.ref I) (.ref a) env) (fun r s' => r = .ok .next ∧ ∃ vs, U n vs s' ∧ Ls s'.heap a vs) s := by
  have hne : ∀ b ∈ fp, b ≠ a := fun b hb e => ha (e ▸ hb)
  have haw : a ∉ wr := fun hm => ha (W.sub _ hm)
  refine codeAny_loop rfl (fun k s' => ∃ i vs, i ≤ n ∧ k = n - i ∧ vs.length ≤ i ∧ St i s'.heap ∧ U i vs s' ∧ Ls s'.heap a vs) ?_ n ⟨0, [], Nat.zero_le _, rfl, Nat.zero_le _, hst, hu, hl⟩
  rintro k s' ⟨i, vs, hi, rfl, hlen, hSt, hU, hL⟩
  show wpAny _ A ((compTurn (.ListComp elt [⟨.Tuple elts kt pt, iter, ifs, 0⟩] scope pos) 0 (.ref I) (.ref a) env).onRaise (fun x => do noteFrame x env; theTreesLotGoes x)) _ _ s'
  refine wpAny_noted ?_
  rw [compTurn_list]
  refine wpAny_bind (wpAny_standAt (wpAny_bind ?_))
  by_cases hlt : i < n
  · refine W.item i s' _ _ hlt hSt fun T vals h' tk hv hT hmid hk => ?_
    have hk' : ∀ b o, b ∉ a :: wr → s'.heap.get? b = some o → h'.get? b = some o := fun b o hb e => hk b o (fun hm => hb (List.mem_cons_of_mem _ hm)) e
    have hL' : Ls h' a vs := hL.keeps fun o e => hk a o haw e
    have hU' := stab i vs s' h' tk hU hk'
    refine wpAny_bind (W.go _ _ _ _ _ _ _ _ hmid fun h'' hSt' hk2 => ?_)
    have hk2' : ∀ b o, b ∉ a :: wr → h'.get? b = some o → h''.get? b = some o := fun b o hb e => hk2 b o (fun hm => hb (List.mem_cons_of_mem _ hm)) e
    have hL'' : Ls h'' a vs := hL'.keeps fun o e => hk2 a o haw e
    have hU'' := stab i vs _ h'' tk hU' hk2'
    have hT'' : h''.IsTuple T vals := let ⟨o, e, r⟩ := hT; ⟨o, hk2 _ o (W.apart _ _ _ hmid) e, r⟩
    refine wpAny_bind (wpN.up (wpAny_mono (turn i T vals vs _ hlt hv hSt' hT'' hU'' hL'') (fun _ s2 h2 => wpAny_bind (wpN.up (wpAny_mono h2 (fun ok s3 h3 => ?_) fun _ _ z => z))) fun _ _ z => z))
    cases ok with
    | false =>
      rw [if_neg (by decide)] at h3
      refine wpAny_pure ⟨rfl, n - (i + 1), by (first | lia | omega), i + 1, vs, hlt, rfl, by (first | lia | omega), ?_, h3.1, ?_⟩
      · exact W.frame _ _ _ hSt' fun b hb o e => h3.2 b (List.mem_cons_of_mem _ hb) o e
      · exact hL''.keeps fun o e => h3.2 a (List.mem_cons_self) o e
    | true =>
      rw [if_pos rfl] at h3
      refine wpAny_bind (wpAny_bind (wpN.up (wpAny_mono h3 (fun r s4 h4 => ?_) fun _ _ z => z)))
      have hL4 : Ls s4.heap a vs := hL''.keeps fun o e => h4.2 a (List.mem_cons_self) o e
      refine wpAny_bind (wpN.up (ls_append hL4 (by (first | lia | omega)) fun h5 hL5 sb => ?_))
      refine wpAny_pure (wpAny_pure ⟨rfl, n - (i + 1), by (first | lia | omega), i + 1, vs ++ [r], hlt, rfl, by simp; (first | lia | omega), ?_, ?_, hL5⟩)
      · exact W.frame _ _ _ hSt' fun b hb o e => sb.extBut b o (hne b hb) (h4.2 b (List.mem_cons_of_mem _ hb) o e)
      · exact stab (i + 1) (vs ++ [r]) s4 h5 s4.toks h4.1 fun b o hb e => sb.extBut b o (fun q => hb (q ▸ List.mem_cons_self)) e
  · obtain rfl : i = n := Nat.le_antisymm hi (Nat.not_lt.mp hlt)
    refine W.done s' _ _ hSt fun h' tk hk => ?_
    exact wpAny_pure ⟨rfl, vs, stab _ vs s' h' tk hU (fun b o hb e => hk b o (fun hm => hb (List.mem_cons_of_mem _ hm)) e), hL.keeps fun o e => hk a o haw e⟩
theorem lcompT {elt iter : Expr} {elts : List Expr} {kt : Nat} {pt : Pos} {ifs : List Expr} {scope : Scope} {pos : Pos} {cl : List (Str × Addr)} {Q : Value → Shared → Prop} (hclos : closureFor scope env = Pure.pure cl) (hkind : scope.kind = .function)
    (hnames : (scope.names.all fun x => x.2 != .local || scope.names.lookup x.1 == some .local) = true) (hs : ∀ x, foldedSetIterable iter env x = Pure.pure x)
    (h : wpN w A (eval iter env) (fun x s₁ => wpN w A (pyIter x) (fun it s₂ => ∃ I fp wr n Pt St Mid, it = .ref I ∧ WalksU pr w A I fp wr n Pt St Mid ∧ St 0 s₂.heap ∧ n ≤ 1000 ∧ (∀ b ∈ fp, b < s₂.heap.objs.size) ∧
      ∀ (a C : Nat), s₂.heap.objs.size = a → C = a + 1 → ∃ U : Nat → List Value → Shared → Prop,
        (∀ i vs s h' tk, U i vs s → (∀ b o, b ∉ a :: wr → s.heap.get? b = some o → h'.get? b = some o) → U i vs { s with heap := h', toks := tk }) ∧
        (∀ i T vals vs s, i < n → Pt i vals → St (i + 1) s.heap → s.heap.IsTuple T vals → U i vs s → Ls s.heap a vs → wpN w A (assign (.Tuple elts kt pt) (cEnv scope cl C env) (.ref T)) (fun _ s2 => wpN w A (tests ifs (cEnv scope cl C env)) (fun ok s3 =>
          if ok = true then wpN w A (eval elt (cEnv scope cl C env)) (fun r s4 => U (i + 1) (vs ++ [r]) s4 ∧ ∀ b ∈ a :: fp, ∀ o, s.heap.get? b = some o → s4.heap.get? b = some o) s3
          else U (i + 1) vs s3 ∧ ∀ b ∈ a :: fp, ∀ o, s.heap.get? b = some o → s3.heap.get? b = some o) s2) s) ∧
        (∀ h' , (∀ b o, s₂.heap.get? b = some o → h'.get? b = some o) → Nl h' C [] → CellsOk h' (C + 1) (cellsFrom (C + 1) scope.names []) → U 0 [] { s₂ with heap := h' }) ∧
        (∀ i vs s, U i vs s → Nl s.heap C []) ∧
        (∀ vs s' h', U n vs s' → Ls h' a vs → Heap.SameBut C s'.heap h' → Q (.ref a) { s' with heap := h' })) s₁) s) :
    wpN w A (eval (.ListComp elt [⟨.Tuple elts kt pt, iter, ifs, 0⟩] scope pos) env) Q s := by
  rw [eval_ListComp]
  refine wpAny_comprehension_free (cl := cl) rfl hs hclos hkind (fun x hx hl => ?_) (wpAny_mono h (fun x s₁ h₁ => wpAny_mono h₁ (fun it s₂ h₂ => ?_) fun _ _ z => z) fun _ _ z => z)
  · have := List.all_eq_true.mp hnames x hx
    rw [hl] at this
    simpa using this
  obtain ⟨I, fp, wr, n, Pt, St, Mid, rfl, W, hSt, hn, hfp, h₂⟩ := h₂
  obtain ⟨U, stab, turn, start, ns, fin⟩ := h₂ s₂.heap.objs.size (s₂.heap.objs.size + 1) rfl rfl
  refine wpAny_newObj_type ?_ (by size_fits)
  have k1 : ∀ b o, s₂.heap.get? b = some o → (s₂.heap.push { cls := .type "list", data := .seq #[] }).get? b = some o := fun b o e => Heap.get?_push_of_some _ e
  refine wp_cenv fun h₄ hk₄ N4 ok4 => ?_
  have eS : (s₂.heap.push { cls := .type "list", data := .seq #[] }).objs.size = s₂.heap.objs.size + 1 := Heap.size_push ..
  have N4 : Nl h₄ (s₂.heap.objs.size + 1) [] := eS ▸ N4
  have ok4 : CellsOk h₄ (s₂.heap.objs.size + 1 + 1) (cellsFrom (s₂.heap.objs.size + 1 + 1) scope.names []) := eS ▸ ok4
  have k4 : ∀ b o, s₂.heap.get? b = some o → h₄.get? b = some o := fun b o e => hk₄ b o (k1 b o e)
  have hL4 : Ls h₄ s₂.heap.objs.size [] := ⟨_, hk₄ _ _ (Heap.get?_push_size _ rfl)⟩
  have hSt4 : St 0 h₄ := W.frame _ _ _ hSt fun b _ o e => k4 b o e
  have haf : s₂.heap.objs.size ∉ fp := fun hm => absurd (hfp _ hm) (Nat.lt_irrefl _)
  have loop := comp_loopT (env := cEnv scope cl (s₂.heap.objs.size + 1) env) (iter := iter) (scope := scope) (pos := pos) W U hn haf stab turn (s := { s₂ with heap := h₄ }) hSt4 (start h₄ k4 N4 ok4) hL4
  have loop' : codeAny (model pr w) A (.compStart (.ListComp elt [⟨.Tuple elts kt pt, iter, ifs, 0⟩] scope pos) 0 (.ref I) (.ref s₂.heap.objs.size) (cEnv scope cl (s₂.heap.objs.size + 1) env)) (fun r s' => r = .ok .next ∧ ∃ vs, U n vs s' ∧ Ls s'.heap s₂.heap.objs.size vs) { s₂ with heap := h₄ } :=
    codeAny_compStart_list loop (W.self 0 _ _ _ hSt4 loop)
  have fin' : ∀ r s', (r = .ok .next ∧ ∃ vs, U n vs s' ∧ Ls s'.heap s₂.heap.objs.size vs) → compPost (model pr w) A No none Q (.ref s₂.heap.objs.size) (s₂.heap.objs.size + 1) r s' := by
    rintro r s' ⟨rfl, vs, hU, hL⟩
    obtain ⟨m, hm, _⟩ := ns _ _ _ hU
    exact ⟨m, hm, fun h' sb => fin vs s' h' hU (hL.keeps fun o e => sb.extBut _ _ (neN (by (first | lia | omega))) e) sb⟩
  have := codeAny_mono loop' fin'
  unfold cEnv at this
  rw [← eS] at this
  exact this
/-- a letter in a text -/
theorem in_s {l : List Nat} {k : Nat} {t u : Tok} {Q : Value → Shared → Prop} (h : Q (.bool (decide (k ∈ l))) s) : wpN w A (compareOp .In (.str (S [k]) u) (.str (S l) t)) Q s := by
  refine SB.contains ?_
  have e : Txt.contains (S l) (S [k]) = decide (k ∈ l) := StrLaws.found_one (S l) k
  rw [e]
  exact h
theorem is_bytes {b : Array UInt8} {t : Tok} {Q : Value → Shared → Prop} (h : Q (.bool true) s) : wpN w A (call (.builtin "isinstance") [.bytes b t, .type "bytes"]) Q s :=
  call_isinstance (isinstance_true (Tx := "bytes") F.isi_meta_bytes F.sub_bytes_bytes) ⟨rfl, h⟩
/-- list[..:..:..] of ints -/
theorem pick_ints {vs : List Value} {ns : List Int} {lo hi st : Option Int} (h : Ints vs ns) : ∃ us ms, slicePick vs.toArray lo hi st = us.toArray ∧ Ints us ms ∧ us.length ≤ vs.length := by
  refine ⟨(slicePick vs.toArray lo hi st).toList, (slicePick vs.toArray lo hi st).toList.map fun v => (iv v).getD 0, by simp, ?_, ?_⟩
  · unfold Ints
    rw [List.map_map]
    refine List.map_congr_left fun v hv => ?_
    unfold slicePick at hv
    simp only [List.mem_filterMap] at hv
    obtain ⟨i, _, e⟩ := hv
    obtain ⟨t, rfl⟩ := h.at (by simpa using e)
    rfl
  · have := slicePick_size_le vs.toArray lo hi st
    simpa using this
theorem mod_pos {a b : Int} {t u : Tok} {Q : Value → Shared → Prop} (hb : 0 < b) (h : ∀ t, Q (.int (a % b) t) { s with toks := s.toks + 1 }) : wpN w A (binaryOp .Mod (.int a t) (.int b u)) Q s := by
  refine PyProof.Rows.mod_int (by (first | lia | omega)) ?_
  rw [Int.fmod_eq_emod_of_nonneg a (by (first | lia | omega))]
  exact h _
theorem sub_slice {value : Expr} {lower upper : Option Expr} {p pos : Pos} {T id : String} {Q : Value → Shared → Prop}
    (hl : typeLookup (.type T) "__getitem__" = pure (some (.builtin id)))
    (h : wpN w A (eval value env) (fun o s₁ => wpN w A (eval (.Slice lower upper none p) env) (fun i s₂ => s₂.TypeIs o T ∧ wpN w A (getItem o i) Q s₂) s₁) s) :
    wpN w A (eval (.Subscript value (.Slice lower upper none p) pos) env) Q s := by
  rw [eval_Subscript]
  refine wpAny_bind (wpAny_mono h (fun o s₁ h₁ => wpAny_bind (wpAny_holding (wpAny_mono h₁ (fun i s₂ h₂ => wpAny_bind (wpAny_standAt ?_)) fun _ _ x => x))) fun _ _ x => x)
  have fin : wpAny (model pr w) A (operate [i, o] (getItem o i)) (fun r s₃ => wpAny (model pr w) A (letTemporaryGo value o r >>= fun _ => pure r) Q No s₃) No s₂ :=
    wpAny_operating (wpAny_mono h₂.2 (fun r s₃ h₃ => wpAny_bind (wpAny_letTemporaryGo (wpAny_pure h₃))) fun _ _ x => x)
  refine wpAny_bind ?_
  rw [getitemInPython_of_ne h₂.1.not_modules]
  refine wpAny_bind (wpAny_specialOf h₂.1 hl ?_)
  first
    | exact wpAny_pure (wpAny_bind fin)
    | exact wpAny_bind (wpAny_pure (wpAny_bind fin))
    | exact wpAny_bind fin
/-- 'letters'[:n] -/
theorem to_s {value : Expr} {upper : Option Expr} {p pos : Pos} {Q : Value → Shared → Prop}
    (h : wpN w A (eval value env) (fun o s₁ => wpN w A (evalPart upper env) (fun v s₂ => ∃ (l : List Nat) (t : Tok) (n : Nat) (u : Tok), o = .str (S l) t ∧ v = .int n u ∧ n ≤ l.length ∧ l.length ≤ 1000 ∧ ∀ t' s', Go [] s₂ s' → (∀ b o, s₂.heap.get? b = some o → s'.heap.get? b = some o) → Q (.str (S (l.take n)) t') s') s₁) s)
    : wpN w A (eval (.Subscript value (.Slice none upper none p) pos) env) Q s := by
  refine sub_slice (T := "str") F.slot_str_getitem.lookup (wpAny_mono h (fun o s₁ h₁ => wpAny_Slice ?_) fun _ _ z => z)
  rw [evalPart_none]
  refine wpAny_pure (wpAny_mono h₁ (fun v s₂ h₂ => ?_) fun _ _ z => z)
  obtain ⟨l, t, n, u, rfl, rfl, hn, hz, hQ⟩ := h₂
  have k1 : ∀ y o, s₂.heap.get? y = some o → (s₂.heap.push { cls := .type "slice", data := .fields #[.none, .int n u, .none] }).get? y = some o := fun y o e => Heap.get?_push_of_some _ e
  refine wpAny_pure ⟨typeIs_str _ _ _, ?_⟩
  refine wpAny_getItem_str_slice (l := none) (u := some ((n : Int), u)) (st := none) ⟨_, Heap.get?_push_size _ rfl, rfl, rfl⟩ rfl ?_
  have e1 : slicePicked (S l) none (some ((n : Int), u)) none = sliceRange ((0 : Nat) : Int) (n : Int) 1 := by
    unfold slicePicked Builtin.Str.strSliceIndices
    rw [S_len]
    simp only [Option.map_some, Option.map_none, Option.getD_none]
    have : ¬ ((n : Int) < 0) := by (first | lia | omega)
    simp only [show (1 : Int) > 0 by decide, if_true, this, if_false]
    congr 1
    (first | lia | omega)
  have e3 : ((slicePicked (S l) none (some ((n : Int), u)) none).filterMap ((S l).cps[·]?)).toArray = (S (l.take n)).cps := by
    rw [e1, sliceRange_one, pick_run]
    simp [S]
  unfold sliceMade
  split
  · rename_i hc
    rw [e1, sliceRange_one] at hc
    simp [S_len] at hc
    have : l.take n = l := List.take_of_length_le (by (first | lia | omega))
    rw [this] at hQ
    exact hQ t _ (.of_keeps (s := s₂) k1) k1
  · rw [e3]
    exact ⟨by rw [show (⟨(S (l.take n)).cps⟩ : Str) = S (l.take n) from rfl, S_len, sizeLine]; simp; (first | lia | omega), hQ _ _ (.of_keeps (s := s₂) k1) k1⟩
end
end Mine
end

/-! Lb -/
section
open PySem PySem.W PySem.W.X PyProof.Rows PySem.Calls
open Sem (wp)
set_option Elab.async false
set_option maxRecDepth 100000
set_option maxHeartbeats 1000000
namespace Mine
abbrev eLA (L : Addr) : Env := callEnvC fdLA L 134
theorem fmLA (L : Addr) : Fm (eLA L) := ⟨rfl, rfl, rfl⟩
theorem Nl.nil {h : Heap} {L : Addr} {l : List (Str × Value)} (N : Nl h L l) : Nl h L [] := by
  obtain ⟨m, hm, _⟩ := N
  exact ⟨m, hm, fun _ _ z => nomatch z⟩
theorem sum_le1 : ∀ (ws : List Int) (b : Int), (∀ x ∈ ws, x ≤ b) → ws.sum ≤ b * (ws.length : Int)
  | [], _, _ => by simp
  | x :: ws, b, h => by
    have h1 := h x List.mem_cons_self
    have h2 := sum_le1 ws b fun y hy => h y (List.mem_cons_of_mem _ hy)
    rw [List.sum_cons, List.length_cons]
    push_cast
    rw [Int.mul_add, Int.mul_one]
    (first | lia | omega)
section
variable {w : World} {A : Around} {s : Shared} {env : Env}
/-- sum([number % 10 ** 6 for number in script[place:28:7]]) -/
theorem rem_e {q1 q2 q3 q4 q5 q6 q7 q8 q9 q10 q11 q12 q13 q14 q15 : Pos} {k1 k2 k3 k4 : Nat} {scope : Scope} {sa cc : Nat} {vs : List Value} {ns : List Int} {pl : Nat} {tp : Tok} {l : List (Str × Value)} {Q : Value → Shared → Prop} (f : Fm env) (c : Cx w s.heap) (r : A.handled = none)
    (hl : s.heap.IsList sa vs.toArray) (hi : Ints vs ns) (hz : vs.length ≤ 63) (hce : s.heap.IsCell cc (some (.ref sa))) (hcl : env.cells.lookup ("script" : Str) = some cc) (hck : env.kindOf "script" = some .cell)
    (N : Nl s.heap env.locals l) (hp : l.lookup ("place" : Str) = some (Value.int (pl : Int) tp)) (hpk : env.kindOf "place" = some .local) (hsum : env.kindOf "sum" = some .globalImplicit)
    (hs : starEach [.ListComp (.BinOp (.Name "number" q1) .Mod (.BinOp (.Constant (.int 10) k1 q2) .Pow (.Constant (.int 6) k2 q3) q4) q5) [⟨.Name "number" q6, .Subscript (.Name "script" q7) (.Slice (some (.Name "place" q8)) (some (.Constant (.int 28) k3 q9)) (some (.Constant (.int 7) k4 q10)) q11) q12, [], 0⟩] scope q13] env
      = (false, eval (.ListComp (.BinOp (.Name "number" q1) .Mod (.BinOp (.Constant (.int 10) k1 q2) .Pow (.Constant (.int 6) k2 q3) q4) q5) [⟨.Name "number" q6, .Subscript (.Name "script" q7) (.Slice (some (.Name "place" q8)) (some (.Constant (.int 28) k3 q9)) (some (.Constant (.int 7) k4 q10)) q11) q12, [], 0⟩] scope q13) env) :: starEach [] env)
    (hs2 : backTo q15 (starEach [.ListComp (.BinOp (.Name "number" q1) .Mod (.BinOp (.Constant (.int 10) k1 q2) .Pow (.Constant (.int 6) k2 q3) q4) q5) [⟨.Name "number" q6, .Subscript (.Name "script" q7) (.Slice (some (.Name "place" q8)) (some (.Constant (.int 28) k3 q9)) (some (.Constant (.int 7) k4 q10)) q11) q12, [], 0⟩] scope q13] env)
      = [(false, eval (.ListComp (.BinOp (.Name "number" q1) .Mod (.BinOp (.Constant (.int 10) k1 q2) .Pow (.Constant (.int 6) k2 q3) q4) q5) [⟨.Name "number" q6, .Subscript (.Name "script" q7) (.Slice (some (.Name "place" q8)) (some (.Constant (.int 28) k3 q9)) (some (.Constant (.int 7) k4 q10)) q11) q12, [], 0⟩] scope q13) env)])
    (hclos : closureFor scope env = Pure.pure []) (hkind : scope.kind = .function) (hnames : (scope.names.all fun x => x.2 != .local || scope.names.lookup x.1 == some .local) = true)
    (h1 : (cEnv scope [] 0 env).kindOf "number" = some .local)
    (hQ : ∀ k t s', 0 ≤ k → k ≤ 63000000 → Go [] s s' → Q (.int k t) s') :
    wpN w A (eval (.Call (.Name "sum" q14) [.ListComp (.BinOp (.Name "number" q1) .Mod (.BinOp (.Constant (.int 10) k1 q2) .Pow (.Constant (.int 6) k2 q3) q4) q5) [⟨.Name "number" q6, .Subscript (.Name "script" q7) (.Slice (some (.Name "place" q8)) (some (.Constant (.int 28) k3 q9)) (some (.Constant (.int 7) k4 q10)) q11) q12, [], 0⟩] scope q13] [] q15) env) Q s := by
  refine callB f c hsum (b_sum _) rfl hs rfl (sp1 hs2 (lcomp (cl := []) hclos hkind hnames (fun _ => rfl) ?_))
  refine wpAny_Subscript_Slice_step (T := "list") slot_list_getitem.lookup (ldc f hce hcl hck rfl (wpAny_Slice ?_)) (fun _ _ => rfl)
  rw [evalPart_some, evalPart_some, evalPart_some]
  refine ld f N hp hpk rfl (wpAny_Constant_int (wpAny_Constant_int ?_))
  obtain ⟨us, ms, e1, e2, e3⟩ := pick_ints (lo := some (pl : Int)) (hi := some 28) (st := some 7) hi
  have kA : ∀ y o, s.heap.get? y = some o → ((s.heap.push { cls := .type "slice", data := .fields #[.int pl tp, .int 28 s.toks, .int 7 (s.toks + 1)] }).push { cls := .type "list", data := .seq us.toArray }).get? y = some o := fun y o e => Heap.get?_push_of_some _ (Heap.get?_push_of_some _ e)
  refine ⟨(hl.at fun o e => Heap.get?_push_of_some _ e).typeIs, wpAny_getItem_list_slice (hl.at fun o e => Heap.get?_push_of_some _ e) (Heap.IsSliceOf.new ..) (.int _ _) (.int _ _) (.int _ _) (by decide) ?_ (by simp [sizeLine]; (first | lia | omega))⟩
  rw [e1]
  generalize ha0 : (s.heap.push { cls := .type "slice", data := .fields #[.int pl tp, .int 28 s.toks, .int 7 (s.toks + 1)] }).objs.size = a0
  generalize hs1 : ({ s with heap := (s.heap.push { cls := .type "slice", data := .fields #[.int pl tp, .int 28 s.toks, .int 7 (s.toks + 1)] }).push { cls := .type "list", data := .seq us.toArray }, toks := s.toks + 1 + 1 } : Shared) = s1
  have G1 : Go [] s s1 := by rw [← hs1]; exact .of_keeps kA
  have L1 : Ls s1.heap a0 us := by rw [← hs1, ← ha0]; exact ⟨_, Heap.get?_push_size _ rfl⟩
  have ha0' : s.heap.objs.size ≤ a0 := by rw [← ha0, Heap.size_push]; exact Nat.le_succ _
  have hz1 : s.heap.objs.size ≤ s1.heap.objs.size := by
    rw [← hs1]
    show s.heap.objs.size ≤ ((s.heap.push _).push _).objs.size
    rw [Heap.size_push, Heap.size_push]
    exact Nat.le_succ_of_le (Nat.le_succ _)
  clear hs1
  clear kA ha0
  have hlt1 := ltN (Classical.choose_spec L1)
  have hlen : us.length = ms.length := e2.len
  have c1 := G1.cx (by simp) c
  refine ls_iter L1 ?_
  have kI : ∀ b o, s1.heap.get? b = some o → (s1.heap.push (liI a0)).get? b = some o := fun b o e => Heap.get?_push_of_some _ e
  have GI : Go [] s1 { s1 with heap := s1.heap.push (liI a0) } := .of_keeps kI
  refine ⟨s1.heap.objs.size, _, _, us.length, _, _, rfl, walks_sq (A := A) r s1.heap.objs.size a0 (neN (by (first | lia | omega))) us.toArray, ⟨⟨_, Heap.get?_push_size _ rfl, rfl, rfl⟩, L1.sq.keeps fun o e => kI _ _ e⟩, by (first | lia | omega), ?_, fun aa C haa hC => ?_⟩
  · intro b hb'
    rw [Heap.size_push]
    simp only [List.mem_cons, List.not_mem_nil, or_false] at hb'
    rcases hb' with rfl | rfl
    · exact Nat.lt_succ_self _
    · exact Nat.lt_succ_of_lt hlt1
  have haa : s1.heap.objs.size + 1 = aa := by rw [← haa]; exact (Heap.size_push ..).symm
  refine ⟨fun i xs s5 => Ints xs ((List.range i).map fun j => ms.getD j 0 % 1000000) ∧ Nl s5.heap C [] ∧ Go [] s s5, ?_, ?_, ?_, ?_, ?_⟩
  · rintro i xs s5 h' tk ⟨u1, u2, u3⟩ hk
    exact ⟨u1, u2.keeps fun o e => hk _ _ (ni2 (by (first | lia | omega))) e, u3.ext hk (by simp; (first | lia | omega))⟩
  · rintro i v xs s5 hi' hv hSt ⟨u1, u2, u3⟩ hLs
    obtain ⟨tv, rfl⟩ := e2.at (by simpa using hv)
    refine wpAny_pure (assignN (env := cEnv scope [] C env) (fm_c f hkind) u2 h1 (l' := [("number", .int (ms.getD i 0) tv)]) (by rfl) fun h6 N6 hs6 => ?_)
    refine wpAny_pure ?_
    rw [if_pos rfl]
    have hs6 : Heap.SameBut C s5.heap h6 := hs6
    refine wpAny_BinOp (ld (fm_c f hkind) N6 (v := .int (ms.getD i 0) tv) (by rfl) h1 rfl ?_)
    refine wpAny_BinOp (wpAny_Constant_int (wpAny_Constant_int (PyProof.Rows.pow_int_small (by decide) (by decide) (by decide) ?_)))
    refine mod_pos (b := 1000000) (by decide) fun t => ⟨⟨?_, N6.nil, u3.same hs6 (by show s.heap.objs.size ≤ C; (first | lia | omega))⟩, ?_⟩
    · rw [List.range_succ, List.map_append]
      exact u1.snoc
    · intro b hb' o e
      simp only [List.mem_cons, List.not_mem_nil, or_false] at hb'
      rcases hb' with rfl | rfl | rfl
      · exact hs6.extBut _ o (neN (by (first | lia | omega))) e
      · exact hs6.extBut _ o (neN (by (first | lia | omega))) e
      · exact hs6.extBut _ o (neN (by (first | lia | omega))) e
  · intro h' hk N ok
    exact ⟨rfl, N, (G1.trans GI).ext (wr := []) (fun b o _ e => hk b o e) (by simp)⟩
  · exact fun i xs s5 u => u.2.1
  · rintro xs s5 h' ⟨u1, u2, u3⟩ hL hs5
    have G6 : Go [] s { s5 with heap := h' } := u3.same hs5 (by show s.heap.objs.size ≤ C; (first | lia | omega))
    have hb : ∀ x ∈ (List.range us.length).map (fun j => ms.getD j 0 % 1000000), 0 ≤ x ∧ x ≤ 1000000 := by
      intro x hx
      obtain ⟨j, _, rfl⟩ := List.mem_map.mp hx
      exact ⟨Int.emod_nonneg _ (by decide), Int.le_of_lt (Int.emod_lt_of_pos _ (by decide))⟩
    refine sum_ints (ws := (List.range us.length).map fun j => ms.getD j 0 % 1000000) r hL u1 (fun x hx => ?_) (by simp; (first | lia | omega)) fun t s7 G7 => ?_
    · have := hb x hx; (first | lia | omega)
    · have G7' : Go [] { s5 with heap := h' } s7 := ⟨G7.keep, G7.gens, G7.dr, G7.os, G7.tab⟩
      refine hQ _ t s7 ?_ ?_ (G6.trans G7')
      · exact (sum_bd _ fun x hx => by have := hb x hx; (first | lia | omega)).1
      · have := sum_le1 _ 1000000 fun x hx => (hb x hx).2
        rw [List.length_map, List.length_range] at this
        (first | lia | omega)
end
end Mine
end

/-! Lc -/
section
open PySem PySem.W PySem.W.X PyProof.Rows PySem.Calls
open Sem (wp)
set_option Elab.async false
set_option maxRecDepth 100000
set_option maxHeartbeats 1000000
namespace Mine
/-- what is known on the way through law -/
structure Lw (w : World) (s0 s : Shared) (L : Nat) (l : List (Str × Value)) (cs : List (Option Value)) : Prop where
  n : Nl s.heap L l
  g : Go [] s0 s
  c0 : Cx w s0.heap
  l0 : s0.heap.objs.size ≤ L
  cl : ∀ (i : Nat) v, cs[i]? = some v → s.heap.IsCell (L + 1 + i : Nat) v
section
variable {w : World} {A : Around} {s0 s s' : Shared} {L : Nat} {l l' : List (Str × Value)} {cs : List (Option Value)} {env : Env}
theorem Lw.c (b : Lw w s0 s L l cs) : Cx w s.heap := b.g.cx (by simp) b.c0
theorem Lw.L135 (b : Lw w s0 s L l cs) : 135 ≤ L := Nat.le_trans b.c0.size b.l0
theorem Lw.go (b : Lw w s0 s L l cs) (G : Go [] s s') : Lw w s0 s' L l cs :=
  ⟨b.n.go G b.L135, b.g.trans G, b.c0, b.l0, fun i v e => cell_go (b.cl i v e) G (by have := b.L135; show @LE.le Nat _ _ _; (first | lia | omega))⟩
theorem Lw.tok (b : Lw w s0 s L l cs) (tk : Nat) : Lw w s0 { s with toks := tk } L l cs := b.go ((Go.refl [] s).tok tk)
theorem Lw.sub (b : Lw w s0 s L l cs) (e : l'.map (fun p => l.lookup p.1) = l'.map (fun p => some p.2)) : Lw w s0 s L l' cs := ⟨b.n.sub e, b.g, b.c0, b.l0, b.cl⟩
theorem cell_same {h h' : Heap} {a c : Nat} {v : Option Value} (e : h.IsCell c v) (hs : Heap.SameBut a h h') (hn : c ≠ a) : h'.IsCell c v := by
  obtain ⟨o, e, q⟩ := e
  exact ⟨o, hs.extBut _ _ hn e, q⟩
theorem Lw.set (b : Lw w s0 s L l cs) {h' : Heap} {tk : Nat} (N : Nl h' L l') (hs : Heap.SameBut L s.heap h') : Lw w s0 { s with heap := h', toks := tk } L l' cs :=
  ⟨N, b.g.same hs b.l0, b.c0, b.l0, fun i v e => cell_same (b.cl i v e) hs (by (first | lia | omega))⟩
/-- a heap that is the same but above -/
theorem Lw.upd (b : Lw w s0 s L l cs) {h' : Heap} {tk : Nat} {wr : List Addr} (hk : ∀ y o, y ∉ wr → s.heap.get? y = some o → h'.get? y = some o) (hw : ∀ y ∈ wr, L + 6 ≤ y) (h5 : cs.length ≤ 5) : Lw w s0 { s with heap := h', toks := tk } L l cs := by
  have hl0 := b.l0
  refine ⟨b.n.keeps fun o e => hk _ _ (fun hm => ?_) e, b.g.ext hk fun y hy => ?_, b.c0, b.l0, fun i v e => ?_⟩
  · have : @LE.le Nat _ (L + 6) L := hw _ hm
    (first | lia | omega)
  · have : @LE.le Nat _ (L + 6) y := hw y hy
    show @LE.le Nat _ _ _
    (first | lia | omega)
  · obtain ⟨o, eo, q⟩ := b.cl i v e
    have : i < cs.length := (List.getElem?_eq_some_iff.mp e).1
    refine ⟨o, hk _ _ (fun hm => ?_) eo, q⟩
    have : @LE.le Nat _ (L + 6) (L + 1 + i) := hw _ hm
    (first | lia | omega)
theorem Lw.store {y : Str} {v : Value} {Q : Unit → Shared → Prop} (b : Lw w s0 s L l cs) (l' : List (Str × Value)) (f : Fm env) (hL : env.locals = L) (hl : env.kindOf y = some .local) (e : l'.map (fun p => ((y, v) :: l).lookup p.1) = l'.map (fun p => some p.2))
    (h : ∀ u', Lw w s0 u' L l' cs → Heap.SameBut L s.heap u'.heap → Q () u') : wpN w A (storeName env y v) Q s := by
  subst hL
  exact Mine.st f b.n hl e fun h1 N1 hs1 => h _ (b.set N1 hs1) hs1
theorem Lw.storeC {y : Str} {v : Value} {v0 : Option Value} {i : Nat} {Q : Unit → Shared → Prop} (b : Lw w s0 s L l cs) (f : Fm env) (hl : env.kindOf y = some .cell) (hc : env.cells.lookup y = some (L + 1 + i)) (hi : cs[i]? = some v0)
    (h : ∀ u', Lw w s0 u' L l (cs.set i (some v)) → Heap.SameBut (L + 1 + i) s.heap u'.heap → Q () u') : wpN w A (storeName env y v) Q s := by
  have hl0 := b.l0
  refine wpAny_storeName_cell f.kind hl hc (b.cl i _ hi) fun h2 hc2 hs2 => h { s with heap := h2 } ⟨b.n.but hs2 (neN (by (first | lia | omega))), b.g.same (tk := s.toks) hs2 (by show @LE.le Nat _ _ _; (first | lia | omega)), b.c0, b.l0, fun j v' e => ?_⟩ hs2
  by_cases q : j = i
  · subst q
    have hi' := (List.getElem?_eq_some_iff.mp hi).1
    rw [List.getElem?_set_self hi'] at e
    cases e
    exact hc2
  · rw [List.getElem?_set_ne (fun e => q e.symm)] at e
    exact cell_same (b.cl j _ e) hs2 (by (first | lia | omega))
theorem Lw.ls (b : Lw w s0 s L l cs) {a : Nat} {vs : List Value} {h' : Heap} (hl : Ls s.heap a vs) (hs : Heap.SameBut L s.heap h') : Ls h' a vs := by
  refine hl.keeps fun o e => hs.extBut _ _ ?_ e
  rintro rfl
  obtain ⟨oL, es, ep, eL, dL⟩ := b.n.dict
  obtain ⟨n, e'⟩ := hl
  rw [e'] at eL
  cases eL
  cases dL
theorem Lw.lsC (b : Lw w s0 s L l cs) {a i : Nat} {vs : List Value} {v0 : Option Value} {h' : Heap} (hl : Ls s.heap a vs) (hi : cs[i]? = some v0) (hs : Heap.SameBut (L + 1 + i) s.heap h') : Ls h' a vs := by
  refine hl.keeps fun o e => hs.extBut _ _ ?_ e
  rintro rfl
  obtain ⟨oL, eL, dL⟩ := b.cl i _ hi
  obtain ⟨n, e'⟩ := hl
  rw [e'] at eL
  cases eL
  cases dL
theorem ni3 {a b c d : Nat} (h : a ≠ b ∧ a ≠ c ∧ a ≠ d) : a ∉ [b, c, d] := by simpa using h
theorem al3 {n a b c : Nat} (h1 : n ≤ a) (h2 : n ≤ b) (h3 : n ≤ c) : ∀ y ∈ [a, b, c], n ≤ y := by simp [h1, h2, h3]
theorem sp7 {e1 e2 e3 e4 e5 e6 e7 : Expr} {pos : Pos} {Q : List Value → Shared → Prop} (hs : backTo pos (starEach [e1, e2, e3, e4, e5, e6, e7] env) = [(false, eval e1 env), (false, eval e2 env), (false, eval e3 env), (false, eval e4 env), (false, eval e5 env), (false, eval e6 env), (false, eval e7 env)])
    (h : wpN w A (eval e1 env) (fun v1 s₁ => wpN w A (eval e2 env) (fun v2 s₂ => wpN w A (eval e3 env) (fun v3 s₃ => wpN w A (eval e4 env) (fun v4 s₄ => wpN w A (eval e5 env) (fun v5 s₅ => wpN w A (eval e6 env) (fun v6 s₆ => wpN w A (eval e7 env) (fun v7 s₇ => Q [v1, v2, v3, v4, v5, v6, v7] s₇) s₆) s₅) s₄) s₃) s₂) s₁) s) : wpN w A (spliced (backTo pos (starEach [e1, e2, e3, e4, e5, e6, e7] env))) Q s := by
  rw [hs]
  exact spliced_cons (wpAny_mono h (fun v s₁ h₁ => spliced_cons (wpAny_mono h₁ (fun v s₁ h₁ => spliced_cons (wpAny_mono h₁ (fun v s₁ h₁ => spliced_cons (wpAny_mono h₁ (fun v s₁ h₁ => spliced_cons (wpAny_mono h₁ (fun v s₁ h₁ => spliced_cons (wpAny_mono h₁ (fun v s₁ h₁ => spliced_cons (wpAny_mono h₁ (fun v s₁ h₁ => spliced_nil h₁) fun _ _ z => z)) fun _ _ z => z)) fun _ _ z => z)) fun _ _ z => z)) fun _ _ z => z)) fun _ _ z => z)) fun _ _ z => z)
local macro_rules | `(tactic| x_close) => `(tactic| (repeat (first | with_reducible refine wpAny_BinOp ?_ | ((with_reducible apply ld (fmLA _)); assumption; rfl; rfl; rfl) | with_reducible refine wpAny_Constant_int ?_ | with_reducible refine wpAny_Constant_str ?_ | with_reducible refine add_int ?_ | with_reducible refine sub_int ?_)))
def laS : List Stmt := fnB (topS 10)
/-- cells = [..] -/
theorem la_cells {sa : Nat} {vs : List Value} {ns : List Int} {l : List (Str × Value)} {c1 c2 c3 c4 : Option Value} {Q : Flow → Shared → Prop} (r : Rm 3 A) (B : Lw w s0 s L l [some (.ref sa), c1, c2, c3, c4]) (hl : s.heap.IsList sa vs.toArray) (hsa : sa ≠ 70 ∧ sa ≠ 77) (hi : Ints vs ns) (hz : vs.length ≤ 63)
    (hQ : ∀ (c : Nat) us ms s', Lw w s0 s' L l [some (.ref sa), some (.ref c), c2, c3, c4] → Ls s'.heap c us → 135 ≤ c → Ints us ms → ms.length = 7 → (∀ k ∈ ms, 0 ≤ k) → wpD w A (execs (laS.drop 1) (eLA L)) Q s') :
    wpD w A (execs laS (eLA L)) Q s := by
  refine D.execs_cons (D.of (asg (lcompT (cl := [("script", L + 1)]) (by rfl) rfl (by rfl) (fun _ => rfl) (callT (fmLA L) B.c rfl (b_enumerate _) rfl rfl rfl (sp1 rfl (wpAny_List (sp7 rfl ?_))))) (by rfl)))
  iterate 7 refine wpAny_Constant_int ?_
  refine ⟨by show 7 ≤ sizeLine; rw [sizeLine]; decide, ?_⟩
  generalize hvs : [Value.int 1 _, Value.int 4 _, Value.int 2 _, Value.int 1 _, Value.int 1 _, Value.int 5 _, Value.int 3 _] = v7
  have hv7 : Ints v7 [1, 4, 2, 1, 1, 5, 3] := by rw [← hvs]; rfl
  clear hvs
  generalize htk : s.toks + 1 + 1 + 1 + 1 + 1 + 1 + 1 = tk
  have B1 := B.tok tk
  have k1 : ∀ y o, s.heap.get? y = some o → (s.heap.push { cls := .type "list", data := .seq v7.toArray }).get? y = some o := fun y o e => Heap.get?_push_of_some _ e
  generalize hh1 : s.heap.push { cls := .type "list", data := .seq v7.toArray } = h1 at k1
  generalize ha7 : s.heap.objs.size = a7
  have l7 : Ls h1 a7 v7 := by rw [← hh1, ← ha7]; exact ⟨_, Heap.get?_push_size _ rfl⟩
  have hz1 : h1.objs.size = a7 + 1 := by rw [← hh1, ← ha7]; exact Heap.size_push ..
  have G1 : Go [] s { s with heap := h1, toks := tk } := .of_keeps k1
  have B1 := B.go G1
  generalize hs1 : ({ s with heap := h1, toks := tk } : Shared) = s1 at B1 G1
  have ehs : s1.heap = h1 := by rw [← hs1]
  clear hs1 hh1 htk
  subst ehs
  refine enum_ls l7 fun e s2 he hst G2 hk2 => ?_
  have B2 := B1.go G2
  have h7l : v7.length = 7 := hv7.len
  have he2 : e < s2.heap.objs.size := by obtain ⟨⟨_, h⟩, _⟩ := hst; exact ltN h
  refine ⟨e, _, _, v7.length, fun i vals => ∃ t x, v7.toArray[i]? = some x ∧ vals = #[.int i t, x], _, _, rfl, (WalksT.enumerate r.h e s1.heap.objs.size a7 (neN (by (first | lia | omega))) (neN (by (first | lia | omega))) (neN (by (first | lia | omega))) v7.toArray).toU, hst, by (first | lia | omega), ?_, fun aa C haa hC => ?_⟩
  · intro b hb'
    simp only [List.mem_cons, List.not_mem_nil, or_false] at hb'
    rcases hb' with rfl | rfl | rfl
    · exact he2
    · show @LT.lt Nat _ _ _; (first | lia | omega)
    · show @LT.lt Nat _ _ _; (first | lia | omega)
  have haa : s2.heap.objs.size = aa := haa
  have hl0 := B.l0
  have hlz : L < s.heap.objs.size := B.n.lt
  have h135 := B.L135
  refine ⟨fun i us s5 => ∃ ms, Ints us ms ∧ ms.length = i ∧ (∀ k ∈ ms, (0 : Int) ≤ k) ∧ Nl s5.heap C [] ∧ Go [] s s5, ?_, ?_, ?_, ?_, ?_⟩
  · rintro i us s5 h' tk ⟨ms, u1, u2, u3, u4, u5⟩ hk
    exact ⟨ms, u1, u2, u3, u4.keeps fun o e => hk _ _ (ni3 ⟨by (first | lia | omega), by (first | lia | omega), by (first | lia | omega)⟩) e, u5.ext hk (al3 (by (first | lia | omega)) (by (first | lia | omega)) (by (first | lia | omega)))⟩
  · rintro i T vals us s5 hi' ⟨th, xv, hxv, rfl⟩ hSt hT ⟨ms, u1, u2, u3, u4, u5⟩ hLs
    obtain ⟨t2, rfl⟩ := hv7.at (by simpa using hxv)
    refine assign2 (env := cEnv _ _ C (eLA L)) [("place", .int i th)] r.h hT (fm_c (fmLA L) rfl) u4 (by rfl) (by rfl) (l' := [("place", .int i th), ("own", .int ([1, 4, 2, 1, 1, 5, 3].getD i 0) t2)]) (by rfl) (by rfl) fun h6 tk6 N6 hk6 => ?_
    have hk6 : ∀ b o, b ≠ C → s5.heap.get? b = some o → h6.get? b = some o := fun b o hb => hk6 b o hb
    refine wpAny_pure ?_
    rw [if_pos rfl]
    have G6 : Go [] s { s5 with heap := h6, toks := tk6 } := u5.ext (wr := [C]) (fun b o hb e => hk6 b o (fun q => hb (List.mem_singleton.mpr q)) e) (al1 (by (first | lia | omega)))
    have B6 := B.go G6
    have hl6 : h6.IsList sa vs.toArray := hl.at fun o e => G6.keep sa o (by simp) hsa.1 hsa.2 e
    generalize hs6 : ({ s5 with heap := h6, toks := tk6 } : Shared) = s6 at G6 B6 ⊢
    have eh6 : s6.heap = h6 := by rw [← hs6]
    clear hs6
    subst eh6
    refine wpAny_BinOp (ld (fm_c (fmLA L) rfl) N6 (by rfl) (by rfl) rfl ?_)
    refine rem_e (l := [("place", .int i th), ("own", .int ([1, 4, 2, 1, 1, 5, 3].getD i 0) t2)]) (cc := L + 1) (pl := i) (tp := th) (fm_c (fmLA L) rfl) B6.c r.h hl6 hi hz (B6.cl 0 _ rfl) (by rfl) (by rfl) N6 (by rfl) (by rfl) (by rfl) (by rfl) (by rfl) (by rfl) rfl (by rfl) (by rfl) fun k t7 s7 hk0 hk1 G7 => ?_
    refine add_int ⟨⟨ms ++ [[1, 4, 2, 1, 1, 5, 3].getD i 0 + k], u1.snoc, by simp [u2], fun x hx => ?_, (Nl.nil (Nl.go (s' := s7) (L := C) N6 G7 (by show @LE.le Nat _ _ _; (first | lia | omega)))), (G6.trans G7).tok _⟩, fun b hb' o e => ?_⟩
    · rcases List.mem_append.mp hx with hx | hx
      · exact u3 x hx
      · obtain rfl : x = [1, 4, 2, 1, 1, 5, 3].getD i 0 + k := by simpa using hx
        have : ∀ j < 7, (0 : Int) ≤ [1, 4, 2, 1, 1, 5, 3].getD j 0 := by decide
        have := this i (by (first | lia | omega))
        (first | lia | omega)
    · simp only [List.mem_cons, List.not_mem_nil, or_false] at hb'
      rcases hb' with rfl | rfl | rfl | rfl
      · exact G7.get (hk6 _ o (neN (by (first | lia | omega))) e) (by show @LE.le Nat _ _ _; (first | lia | omega))
      · exact G7.get (hk6 _ o (neN (by (first | lia | omega))) e) (by show @LE.le Nat _ _ _; (first | lia | omega))
      · exact G7.get (hk6 _ o (neN (by (first | lia | omega))) e) (by show @LE.le Nat _ _ _; (first | lia | omega))
      · exact G7.get (hk6 _ o (neN (by (first | lia | omega))) e) (by show @LE.le Nat _ _ _; (first | lia | omega))
  · intro h' hk N ok
    exact ⟨[], rfl, rfl, by simp, N, (G1.trans G2).ext (wr := []) (fun b o _ e => hk b o e) (by simp)⟩
  · rintro i us s5 ⟨ms, u1, u2, u3, u4, u5⟩
    exact u4
  · rintro us s5 h' ⟨ms, u1, u2, u3, u4, u5⟩ hL hs5
    have G6 : Go [] s { s5 with heap := h' } := u5.same hs5 (by show @LE.le Nat _ _ _; (first | lia | omega))
    have B6 := B.go G6
    refine B6.storeC (i := 1) (fmLA L) (by rfl) (by rfl) rfl fun s7 B7 hs7 => ?_
    exact hQ aa us ms s7 B7 (B6.lsC (i := 1) hL rfl hs7) (by (first | lia | omega)) u1 (by (first | lia | omega)) u3
end
end Mine
end

/-! Ld -/
section
open PySem PySem.W PySem.W.X PyProof.Rows PySem.Calls
open Sem (wp)
set_option Elab.async false
set_option maxRecDepth 100000
set_option maxHeartbeats 1000000
namespace Mine
section
variable {w : World} {A : Around} {s0 s s' : Shared} {L : Nat} {l l' : List (Str × Value)} {cs : List (Option Value)} {env : Env}
local macro_rules | `(tactic| x_close) => `(tactic| (repeat (first | with_reducible refine wpAny_BinOp ?_ | ((with_reducible apply ld (fmLA _)); assumption; rfl; rfl; rfl) | with_reducible refine wpAny_Constant_int ?_ | with_reducible refine wpAny_Constant_str ?_ | with_reducible refine add_int ?_ | with_reducible refine sub_int ?_)))
/-- count, row -/
theorem la_row {cc : Nat} {vs : List Value} {ms : List Int} {c0 c2 c3 c4 : Option Value} {Q : Flow → Shared → Prop} (r : Rm 3 A) (B : Lw w s0 s L [] [c0, some (.ref cc), c2, c3, c4]) (hl : Ls s.heap cc vs) (hcc : 135 ≤ cc) (hi : Ints vs ms) (hz : ms.length = 7) (hm : ∀ k ∈ ms, 0 ≤ k)
    (hQ : ∀ (n : Nat) t (a : Nat) us (ws : List Nat) s', Lw w s0 s' L [("count", .int n t), ("row", .ref a)] [c0, some (.ref cc), c2, c3, c4] → Ls s'.heap a us → 135 ≤ a → Ints us (ws.map fun (k : Nat) => (k : Int)) → ws.length = n → 4 ≤ n → n ≤ 6 → (∀ k ∈ ws, 1 ≤ k ∧ k ≤ 8) → wpD w A (execs (laS.drop 3) (eLA L)) Q s') :
    wpD w A (execs (laS.drop 1) (eLA L)) Q s := by
  have hvl : vs.length = 7 := by rw [hi.len, hz]
  have hg : ∀ i, 0 ≤ ms.getD i 0 := by
    intro i
    rw [List.getD_eq_getElem?_getD]
    cases q : ms[i]? with
    | none => simp
    | some x => exact hm x (List.mem_of_getElem? q)
  refine D.execs_cons (D.of (asg (wpAny_BinOp (wpAny_Constant_int (wpAny_BinOp (sub_const (ldc (fmLA L) (B.tok _ |>.cl 1 _ rfl) (by rfl) (by rfl) rfl (wpAny_Constant_int ?_)))))) (by rfl)))
  have e0 : vs[0]? = some (vs[0]'(by (first | lia | omega))) := List.getElem?_eq_getElem (by (first | lia | omega))
  obtain ⟨t0, et0⟩ := hi.at e0
  refine sub_ls (k := 0) (vs := vs) hl (by (first | lia | omega)) e0 ?_
  rw [et0]
  refine wpAny_Constant_int (mod_pos (b := 3) (by decide) fun t => add_int ?_)
  have h3 := Int.emod_nonneg (ms.getD 0 0) (b := 3) (by decide)
  have h3' := Int.emod_lt_of_pos (ms.getD 0 0) (b := 3) (by decide)
  generalize hn : 4 + (ms.getD 0 0 % 3).toNat = n
  have en : 4 + ms.getD 0 0 % 3 = (n : Int) := by (first | lia | omega)
  rw [en]
  have hn4 : 4 ≤ n := by (first | lia | omega)
  have hn6 : n ≤ 6 := by (first | lia | omega)
  refine (B.tok _).store [("count", .int n _)] (fmLA L) rfl (by rfl) (by rfl) fun s1 B1 hs1 => ?_
  have l1 : Ls s1.heap cc vs := B.ls hl hs1
  obtain ⟨tn, B1⟩ : ∃ tn, Lw w s0 s1 L [("count", .int n tn)] [c0, some (.ref cc), c2, c3, c4] := ⟨_, B1⟩
  clear hs1
  have N := B1.n
  have h135 := B1.L135
  have hl0 := B1.l0
  refine D.execs_cons (D.of (lcompU (cl := [("cells", L + 2)]) (fmLA L) (by rfl) (by rfl) (by rfl) rfl (by rfl) (fun _ => rfl) (callT (fmLA L) B1.c rfl (b_range _) rfl rfl rfl (sp1 rfl ?_))))
  x_close
  refine range1 (by (first | lia | omega)) fun I h2' tk3 hI hIs hk2 => ?_
  have hIs : s1.heap.objs.size ≤ I := hIs
  have hIz : I < h2'.objs.size := ltN hI
  have hLz : L < s1.heap.objs.size := N.lt
  obtain ⟨oL, esL, epL, eL, dL⟩ := N.dict
  refine ⟨I, [I], [I], n, _, _, rfl, Walks.range (A := A) r.h I 0 1 _, hI, by (first | lia | omega), ?_, ⟨oL, hk2 _ _ eL⟩, fun aa C haa hC => ?_⟩
  · intro b hb'
    obtain rfl : b = I := by simpa using hb'
    exact hIz
  have haa : h2'.objs.size = aa := haa
  refine ⟨fun i us s5 => Ints us ((List.range i).map fun j => 1 + ms.getD (j + 1) 0 % 8) ∧ Nl s5.heap C [] ∧ Go [] s1 s5, ?_, ?_, ?_, ?_, ?_⟩
  · rintro i us s5 h' tk ⟨u1, u2, u3⟩ hk
    exact ⟨u1, u2.keeps fun o e => hk _ _ (ni2 ⟨by (first | lia | omega), by (first | lia | omega)⟩) e, u3.ext hk (by simp; exact ⟨by show @LE.le Nat _ _ _; (first | lia | omega), hIs⟩)⟩
  · rintro i v us s5 hi' ⟨tv, rfl⟩ hSt ⟨u1, u2, u3⟩ hLs
    refine wpAny_pure (assignN (env := cEnv _ _ C (eLA L)) (fm_c (fmLA L) rfl) u2 (by rfl) (l' := [("k", .int (0 + (i : Int) * 1) tv)]) (by rfl) fun h6 N6 hs6 => ?_)
    refine wpAny_pure ?_
    rw [if_pos rfl]
    have hs6 : Heap.SameBut C s5.heap h6 := hs6
    have G6 : Go [] s1 { s5 with heap := h6, toks := s5.toks + 1 } := u3.same hs6 (by show s1.heap.objs.size ≤ C; (first | lia | omega))
    have B6 := B1.go G6
    have l6 : Ls h6 cc vs := l1.go G6 hcc
    refine wpAny_BinOp (wpAny_Constant_int (wpAny_BinOp (wpAny_Subscript_BinOp_late (ldc (fm_c (fmLA L) rfl) (B6.cl 1 _ rfl) (by rfl) (by rfl) rfl (wpAny_BinOp (ld (fm_c (fmLA L) rfl) N6 (v := .int (0 + (i : Int) * 1) tv) (by rfl) (by rfl) rfl ?_))))))
    refine wpAny_Constant_int (add_int ?_)
    have ei : (0 + (i : Int) * 1 + 1) = ((i + 1 : Nat) : Int) := by (first | lia | omega)
    rw [ei]
    have ev : vs[i + 1]? = some (vs[i + 1]'(by (first | lia | omega))) := List.getElem?_eq_getElem (by (first | lia | omega))
    obtain ⟨tx, etx⟩ := hi.at ev
    refine sub_ls (k := i + 1) (vs := vs) l6 (by (first | lia | omega)) ev ?_
    rw [etx]
    refine wpAny_Constant_int (mod_pos (b := 8) (by decide) fun t => add_int ⟨⟨?_, N6.nil, G6.tok _⟩, ?_⟩)
    · rw [List.range_succ, List.map_append]
      exact u1.snoc
    · intro b hb' o e
      simp only [List.mem_cons, List.not_mem_nil, or_false] at hb'
      rcases hb' with rfl | rfl
      · exact hs6.extBut _ o (neN (by (first | lia | omega))) e
      · exact hs6.extBut _ o (neN (by (first | lia | omega))) e
  · intro h' hk N ok
    exact ⟨rfl, N, .of_keeps fun b o e => hk b o (hk2 b o e)⟩
  · exact fun i us s5 u => u.2.1
  · rintro us s5 ⟨u1, u2, u3⟩ hL
    have B5 := B1.go u3
    refine ⟨_, [("count", .int n tn), ("row", .ref aa)], B5.n, by rfl, fun h1 h' N1 hs1 hC1 hs2 hL' => ?_⟩
    have hs1 : Heap.SameBut L s5.heap h1 := hs1
    have B6 := B5.set (tk := s5.toks + 1) N1 hs1
    have B7 : Lw w s0 { s5 with heap := h', toks := s5.toks + 1 } L [("count", .int n tn), ("row", .ref aa)] [c0, some (.ref cc), c2, c3, c4] := by
      refine ⟨B6.n.but hs2 (neN (by (first | lia | omega))), B6.g.same (tk := s5.toks + 1) hs2 (by show @LE.le Nat _ _ _; (first | lia | omega)), B6.c0, B6.l0, fun j v' e => cell_same (B6.cl j _ e) hs2 ?_⟩
      have : j < 5 := (List.getElem?_eq_some_iff.mp e).1
      obtain ⟨o4, e4, _⟩ := B1.cl 4 _ rfl
      have := ltN e4
      (first | lia | omega)
    have ews : ((List.range n).map fun j => 1 + ms.getD (j + 1) 0 % 8) = (((List.range n).map fun j => 1 + (ms.getD (j + 1) 0 % 8).toNat).map fun (k : Nat) => (k : Int)) := by
      rw [List.map_map]
      refine List.map_congr_left fun j _ => ?_
      have := Int.emod_nonneg (ms.getD (j + 1) 0) (b := 8) (by decide)
      show _ = (((1 + (ms.getD (j + 1) 0 % 8).toNat : Nat)) : Int)
      (first | lia | omega)
    rw [ews] at u1
    refine hQ n tn aa us _ _ B7 hL' (by (first | lia | omega)) u1 (by simp) hn4 hn6 fun k hk => ?_
    obtain ⟨j, _, rfl⟩ := List.mem_map.mp hk
    have h8 := Int.emod_nonneg (ms.getD (j + 1) 0) (b := 8) (by decide)
    have h8' := Int.emod_lt_of_pos (ms.getD (j + 1) 0) (b := 8) (by decide)
    (first | lia | omega)
end
end Mine
end

/-! Lf -/
section
open PySem PySem.W PySem.W.X PyProof.Rows PySem.Calls
open Sem (wp)
set_option Elab.async false
set_option maxRecDepth 100000
set_option maxHeartbeats 1000000
namespace Mine
theorem swp_two {m1 m2 : List Nat} {n : Nat} {b' : Array UInt8} (h1 : m1.length = n) (h2 : m2.length = n) (S : Swp (Bt (m1 ++ m2)) b' n 2 2 0) : b' = Bt (m1.reverse ++ m2.reverse) := by
  obtain ⟨e1, e2⟩ := S
  rw [Bt_size] at e1
  apply Array.ext'
  apply List.ext_getElem?
  intro i
  rw [Array.getElem?_toList]
  by_cases hi : i < n
  · have := e2 0 i (by (first | lia | omega)) hi (.inl (by (first | lia | omega)))
    rw [Nat.zero_mul, Nat.zero_add, Nat.zero_add] at this
    rw [this]
    unfold Bt
    rw [List.getElem?_toArray, List.getElem?_map, List.getElem?_map, List.getElem?_append_left (by (first | lia | omega)), List.getElem?_append_left (by simp; (first | lia | omega)), List.getElem?_reverse (by (first | lia | omega)), h1]
  · by_cases hi2 : i < n + n
    · have := e2 1 (i - n) (by (first | lia | omega)) (by (first | lia | omega)) (.inl (by (first | lia | omega)))
      rw [Nat.one_mul, show n + (i - n) = i by (first | lia | omega)] at this
      rw [this]
      unfold Bt
      rw [List.getElem?_toArray, List.getElem?_map, List.getElem?_map, List.getElem?_append_right (by (first | lia | omega)), List.getElem?_append_right (by simp; (first | lia | omega)), List.getElem?_reverse (by simp; (first | lia | omega)), h1, h2, List.length_reverse, h1]
      congr 2
      (first | lia | omega)
    · rw [Array.getElem?_eq_none (by rw [e1]; simp; (first | lia | omega)), List.getElem?_eq_none (by simp [Bt]; (first | lia | omega))]
theorem b_bytes_ok (P : Params) : biOk P "bytes" (.type "bytes") := b_bytes P
section
variable {w : World} {A : Around} {s0 s s' : Shared} {L : Nat} {l l' : List (Str × Value)} {cs : List (Option Value)} {env : Env}
local macro_rules | `(tactic| x_close) => `(tactic| (repeat (first | with_reducible refine wpAny_BinOp ?_ | ((with_reducible apply ld (fmLA _)); assumption; rfl; rfl; rfl) | with_reducible refine wpAny_Constant_int ?_ | with_reducible refine wpAny_Constant_str ?_ | with_reducible refine add_int ?_ | with_reducible refine sub_int ?_)))
/-- least, words -/
theorem la_words {n ar : Nat} {tn : Tok} {us : List Value} {ws : List Nat} {cs : List (Option Value)} {Q : Flow → Shared → Prop} (r : Rm 24 A) (B : Lw w s0 s L [("count", .int n tn), ("row", .ref ar)] cs) (hl : Ls s.heap ar us) (har : 135 ≤ ar) (hi : Ints us (ws.map fun (k : Nat) => (k : Int)))
    (hn : ws.length = n) (h4 : 4 ≤ n) (h6 : n ≤ 6) (hb : ∀ k ∈ ws, 1 ≤ k ∧ k ≤ 8)
    (hQ : ∀ tl tw s', Lw w s0 s' L [("count", .int n tn), ("row", .ref ar), ("least", .int (lst n (ws.map fun (k : Nat) => (k : Int))) tl), ("words", .bytes (Bt (ws ++ ws.reverse)) tw)] cs → Ls s'.heap ar us → wpD w A (execs (laS.drop 5) (eLA L)) Q s') :
    wpD w A (execs (laS.drop 3) (eLA L)) Q s := by
  have N := B.n
  have hul : us.length = n := by rw [hi.len]; simpa using hn
  refine D.execs_cons (D.of (asg (callF (fmLA L) B.c rfl (kLe _) (kLE _) rfl rfl (sp1 rfl ?_)) (by rfl)))
  x_close
  refine ⟨B.c, least_call n _ s ar us (ws.map fun (k : Nat) => (k : Int)) _ B.c (r.mono (by (first | lia | omega))) hl har hi (by simp; (first | lia | omega)) (by simp; (first | lia | omega)) h6 (fun x hx => ?_) fun tl s1 G1 => ?_⟩
  · obtain ⟨k, hk, rfl⟩ := List.mem_map.mp hx
    have := hb k hk
    (first | lia | omega)
  have B1 := B.go G1
  have l1 := hl.go G1 har
  refine B1.store [("count", .int n tn), ("row", .ref ar), ("least", .int (lst n (ws.map fun (k : Nat) => (k : Int))) tl)] (fmLA L) rfl (by rfl) (by rfl) fun s2 B2 hs2 => ?_
  have l2 := B1.ls l1 hs2
  clear hs2
  have N := B2.n
  refine D.execs_cons (D.assign (D.callF (fmLA L) B2.c rfl (k_bsw _) (kBS _) rfl rfl rfl (sp2 rfl (callT (fmLA L) B2.c rfl (b_bytes _) rfl rfl rfl (sp1 rfl (wpAny_BinOp (rev_ls ?_ (fun _ _ => rfl))))))) (by rfl))
  refine ld (fmLA L) N (v := .ref ar) (by rfl) (by rfl) rfl ?_
  refine uminus (k := 0) (t := 0) (wpAny_Constant_int ⟨1, _, rfl, fun t' => ?_⟩)
  refine ⟨ar, us, t', rfl, rfl, by exact l2, by (first | lia | omega), fun c1 s3 hc1 l3 k3 G3 => ?_⟩
  have B3 := (B2.tok _).go G3
  have l3' : Ls s3.heap ar us := l2.keeps fun o e => k3 _ _ e
  have N := B3.n
  refine ld (fmLA L) N (v := .ref ar) (by rfl) (by rfl) rfl ?_
  refine add_ls l3 l3' (by simp; (first | lia | omega)) fun c2 s4 hc2 l4 k4 G4 => ?_
  have B4 := B3.go G4
  have l4' : Ls s4.heap ar us := l3'.keeps fun o e => k4 _ _ e
  have e4 : Ints (us.reverse ++ us) ((ws.reverse ++ ws).map fun (k : Nat) => (k : Int)) := by
    rw [List.map_append, List.map_reverse]
    exact hi.reverse.append hi
  refine bytes_bt (l := ws.reverse ++ ws) r.h l4 e4 (fun k hk => ?_) (by simp; (first | lia | omega)) fun t5 s5 k5 G5 => ?_
  · have : k ∈ ws := by
      rcases List.mem_append.mp hk with h | h
      · exact List.mem_reverse.mp h
      · exact h
    have := hb k this
    (first | lia | omega)
  have B5 := B4.go G5
  have l5 : Ls s5.heap ar us := l4'.keeps fun o e => k5 _ _ e
  have N := B5.n
  refine ld (fmLA L) N (v := .int n tn) (by rfl) (by rfl) rfl ?_
  refine ⟨B5.c, byteswap (q := 2) B5.c (r.mono (by (first | lia | omega))) (by (first | lia | omega)) (by rw [Bt_size]; simp; (first | lia | omega)) (by rw [Bt_size]; simp; (first | lia | omega)) (by (first | lia | omega)) fun b' tk s6 S G6 => ?_⟩
  rw [swp_two (by simpa using hn) hn S, List.reverse_reverse]
  have B6 := B5.go G6
  have l6 := l5.go G6 har
  refine B6.store [("count", .int n tn), ("row", .ref ar), ("least", .int (lst n (ws.map fun (k : Nat) => (k : Int))) tl), ("words", .bytes (Bt (ws ++ ws.reverse)) tk)] (fmLA L) rfl (by rfl) (by rfl) fun s7 B7 hs7 => ?_
  exact hQ tl tk s7 B7 (B6.ls l6 hs7)
end
end Mine
end

/-! Lg -/
section
open PySem PySem.W PySem.W.X PyProof.Rows PySem.Calls
open Sem (wp)
set_option Elab.async false
set_option maxRecDepth 100000
set_option maxHeartbeats 1000000
namespace Mine
/-- in how many texts a letter stands -/
def cntF (k : Nat) (js : List (List Nat)) : Nat := (js.filter fun t => decide (k ∈ t)).length
theorem cntF_snoc (k : Nat) (js : List (List Nat)) (t : List Nat) : cntF k (js ++ [t]) = cntF k js + if k ∈ t then 1 else 0 := by
  unfold cntF
  rw [List.filter_append]
  by_cases h : k ∈ t <;> simp [h]
section
variable {w : World} {A : Around} {s : Shared} {env : Env}
theorem tests1 {e : Expr} {Q : Bool → Shared → Prop} (h : wpN w A (isTrue e env (eval e env)) Q s) : wpN w A (tests [e] env) Q s := by
  unfold tests
  rw [List.forIn_cons]
  refine wpAny_bind (wpAny_bind ?_)
  refine wpAny_mono h (fun ok s1 h1 => wpAny_pure ?_) fun _ _ z => z
  show wpAny _ _ (forIn [] ok _) _ _ _
  rw [List.forIn_nil]
  exact wpAny_pure h1
/-- len([text for text in joined if chr(97 + place) in text]) -/
theorem cnt_e {q1 q2 q3 q4 q5 q6 q7 q8 q9 q10 q11 : Pos} {k1 : Nat} {scope : Scope} {cl : List (Str × Addr)} {ja cj cp : Nat} {us : List Value} {js : List (List Nat)} {pl : Nat} {tp : Tok} {Q : Value → Shared → Prop} (f : Fm env) (c : Cx w s.heap) (r : A.handled = none)
    (hl : Ls s.heap ja us) (hja : 135 ≤ ja) (hi : Txs us js) (hz : us.length ≤ 63) (hcj : s.heap.IsCell cj (some (.ref ja))) (hcj1 : 135 ≤ cj) (hcl : env.cells.lookup ("joined" : Str) = some cj) (hck : env.kindOf "joined" = some .cell)
    (hcp : s.heap.IsCell cp (some (.int (pl : Int) tp))) (hcp1 : 135 ≤ cp) (hp6 : pl ≤ 6)
    (hlen : env.kindOf "len" = some .globalImplicit)
    (hs : starEach [.ListComp (.Name "text" q1) [⟨.Name "text" q2, .Name "joined" q3, [.Compare (.Call (.Name "chr" q4) [.BinOp (.Constant (.int 97) k1 q5) .Add (.Name "place" q6) q7] [] q8) [.In] [.Name "text" q9] q10], 0⟩] scope q11] env
      = (false, eval (.ListComp (.Name "text" q1) [⟨.Name "text" q2, .Name "joined" q3, [.Compare (.Call (.Name "chr" q4) [.BinOp (.Constant (.int 97) k1 q5) .Add (.Name "place" q6) q7] [] q8) [.In] [.Name "text" q9] q10], 0⟩] scope q11) env) :: starEach [] env)
    {q12 q13 : Pos}
    (hs2 : backTo q13 (starEach [.ListComp (.Name "text" q1) [⟨.Name "text" q2, .Name "joined" q3, [.Compare (.Call (.Name "chr" q4) [.BinOp (.Constant (.int 97) k1 q5) .Add (.Name "place" q6) q7] [] q8) [.In] [.Name "text" q9] q10], 0⟩] scope q11] env)
      = [(false, eval (.ListComp (.Name "text" q1) [⟨.Name "text" q2, .Name "joined" q3, [.Compare (.Call (.Name "chr" q4) [.BinOp (.Constant (.int 97) k1 q5) .Add (.Name "place" q6) q7] [] q8) [.In] [.Name "text" q9] q10], 0⟩] scope q11) env)])
    (hclos : closureFor scope env = Pure.pure cl) (hkind : scope.kind = .function) (hnames : (scope.names.all fun x => x.2 != .local || scope.names.lookup x.1 == some .local) = true)
    (h1 : (cEnv scope cl 0 env).kindOf "text" = some .local) (h2 : ∀ C, (cEnv scope cl C env).cells.lookup ("place" : Str) = some cp) (h3 : (cEnv scope cl 0 env).kindOf "place" = some .cell) (h4 : (cEnv scope cl 0 env).kindOf "chr" = some .globalImplicit)
    (hs3 : ∀ C, starEach [.BinOp (.Constant (.int 97) k1 q5) .Add (.Name "place" q6) q7] (cEnv scope cl C env) = (false, eval (.BinOp (.Constant (.int 97) k1 q5) .Add (.Name "place" q6) q7) (cEnv scope cl C env)) :: starEach [] (cEnv scope cl C env))
    (hs4 : ∀ C, backTo q8 (starEach [.BinOp (.Constant (.int 97) k1 q5) .Add (.Name "place" q6) q7] (cEnv scope cl C env)) = [(false, eval (.BinOp (.Constant (.int 97) k1 q5) .Add (.Name "place" q6) q7) (cEnv scope cl C env))])
    (hQ : ∀ t s', Go [] s s' → Q (.int (cntF (97 + pl) js : Nat) t) s') :
    wpN w A (eval (.Call (.Name "len" q12) [.ListComp (.Name "text" q1) [⟨.Name "text" q2, .Name "joined" q3, [.Compare (.Call (.Name "chr" q4) [.BinOp (.Constant (.int 97) k1 q5) .Add (.Name "place" q6) q7] [] q8) [.In] [.Name "text" q9] q10], 0⟩] scope q11] [] q13) env) Q s := by
  have hjs : js.length = us.length := hi.len.symm
  refine callB f c hlen (b_len _) rfl hs rfl (sp1 hs2 (lcomp (cl := cl) hclos hkind hnames (fun _ => rfl) (ldc f hcj hcl hck rfl ?_)))
  have hlt1 := ltN (Classical.choose_spec hl)
  refine ls_iter hl ?_
  have kI : ∀ b o, s.heap.get? b = some o → (s.heap.push (liI ja)).get? b = some o := fun b o e => Heap.get?_push_of_some _ e
  have GI : Go [] s { s with heap := s.heap.push (liI ja) } := .of_keeps kI
  refine ⟨s.heap.objs.size, _, _, us.length, _, _, rfl, walks_sq (A := A) r s.heap.objs.size ja (neN (by (first | lia | omega))) us.toArray, ⟨⟨_, Heap.get?_push_size _ rfl, rfl, rfl⟩, hl.sq.keeps fun o e => kI _ _ e⟩, by (first | lia | omega), ?_, fun aa C haa hC => ?_⟩
  · intro b hb'
    rw [Heap.size_push]
    simp only [List.mem_cons, List.not_mem_nil, or_false] at hb'
    rcases hb' with rfl | rfl
    · exact Nat.lt_succ_self _
    · exact Nat.lt_succ_of_lt hlt1
  have haa : s.heap.objs.size + 1 = aa := by rw [← haa]; exact (Heap.size_push ..).symm
  refine ⟨fun i xs s5 => xs.length = cntF (97 + pl) (js.take i) ∧ Nl s5.heap C [] ∧ Go [] s s5, ?_, ?_, ?_, ?_, ?_⟩
  · rintro i xs s5 h' tk ⟨u1, u2, u3⟩ hk
    exact ⟨u1, u2.keeps fun o e => hk _ _ (ni2 (by (first | lia | omega))) e, u3.ext hk (by simp; (first | lia | omega))⟩
  · rintro i v xs s5 hi' hv hSt ⟨u1, u2, u3⟩ hLs
    obtain ⟨p, tv, ep, rfl⟩ := hi.at (by simpa using hv)
    refine wpAny_pure (assignN (env := cEnv scope cl C env) (fm_c f hkind) u2 h1 (l' := [("text", .str (S p) tv)]) (by rfl) fun h6 N6 hs6 => ?_)
    have hs6 : Heap.SameBut C s5.heap h6 := hs6
    have G6 : Go [] s { s5 with heap := h6, toks := s5.toks + 1 } := u3.same hs6 (by show s.heap.objs.size ≤ C; (first | lia | omega))
    have c6 := G6.cx (by simp) c
    have hp6' := cell_go hcp G6 hcp1
    refine tests1 (wpAny_isTrue_Compare1 (callB (fm_c f hkind) c6 h4 (b_chr _) rfl (hs3 C) rfl (sp1 (hs4 C) (wpAny_BinOp (wpAny_Constant_int (ldc (fm_c f hkind) hp6' (h2 C) h3 rfl (add_int ?_)))))))
    have e1 : ((97 : Int) + pl) = ((97 + pl : Nat) : Int) := by (first | lia | omega)
    refine chr_s (by (first | lia | omega)) (by (first | lia | omega)) fun t7 tk7 => ?_
    rw [show ((97 : Int) + pl).toNat = 97 + pl by (first | lia | omega)]
    refine ld (fm_c f hkind) N6 (v := .str (S p) tv) (by rfl) h1 rfl (in_s (truthy_bool ?_))
    have etk : js.take (i + 1) = js.take i ++ [p] := by rw [List.take_add_one, ep]; rfl
    have kk : ∀ b ∈ [aa, s.heap.objs.size, ja], ∀ o, s5.heap.get? b = some o → h6.get? b = some o := by
      intro b hb' o e
      simp only [List.mem_cons, List.not_mem_nil, or_false] at hb'
      rcases hb' with rfl | rfl | rfl
      · exact hs6.extBut _ o (neN (by (first | lia | omega))) e
      · exact hs6.extBut _ o (neN (by (first | lia | omega))) e
      · exact hs6.extBut _ o (neN (by (first | lia | omega))) e
    by_cases hm : 97 + pl ∈ p
    · rw [if_pos (by simpa using hm)]
      refine ld (fm_c f hkind) N6 (v := .str (S p) tv) (by rfl) h1 rfl ⟨⟨?_, N6.nil, G6.tok _⟩, kk⟩
      rw [etk, cntF_snoc, if_pos hm, List.length_append, u1]
      rfl
    · rw [if_neg (by simpa using hm)]
      refine ⟨⟨?_, N6.nil, G6.tok _⟩, kk⟩
      rw [etk, cntF_snoc, if_neg hm, u1]
      rfl
  · intro h' hk N ok
    exact ⟨rfl, N, GI.ext (wr := []) (fun b o _ e => hk b o e) (by simp)⟩
  · exact fun i xs s5 u => u.2.1
  · rintro xs s5 h' ⟨u1, u2, u3⟩ hL hs5
    have G6 : Go [] s { s5 with heap := h' } := u3.same hs5 (by show s.heap.objs.size ≤ C; (first | lia | omega))
    rw [List.take_of_length_le (by (first | lia | omega))] at u1
    have : cntF (97 + pl) js ≤ js.length := List.length_filter_le _ _
    refine len_ls hL (by (first | lia | omega)) fun t tk => ?_
    rw [u1]
    exact hQ t _ (G6.tok _)
end
end Mine
end

/-! Lh -/
section
open PySem PySem.W PySem.W.X PyProof.Rows PySem.Calls
open Sem (wp)
set_option Elab.async false
set_option maxRecDepth 100000
set_option maxHeartbeats 1000000
namespace Mine
def forB : Stmt → List Stmt
  | .For _ _ b _ _ => b
  | _ => []
/-- the body of law's loop -/
def laB : List Stmt := forB ((laS[5]?).getD (.Pass ⟨0, 0, 0, 0⟩))
/-- the heights of the letters -/
def htF (n : Nat) (js : List (List Nat)) : List Nat := (List.range n).map fun p => cntF (97 + p) js
section
variable {w : World} {A : Around} {s0 s s' : Shared} {L : Nat} {l l' : List (Str × Value)} {cs : List (Option Value)} {env : Env}
local macro_rules | `(tactic| x_close) => `(tactic| (repeat (first | with_reducible refine wpAny_BinOp ?_ | ((with_reducible apply ld (fmLA _)); assumption; rfl; rfl; rfl) | with_reducible refine wpAny_Constant_int ?_ | with_reducible refine wpAny_Constant_str ?_ | with_reducible refine add_int ?_ | with_reducible refine sub_int ?_)))
/-- what is neither a dict nor a cell -/
def Pn (o : Obj) : Prop := (∃ xs n, o.data = .seq xs n) ∨ (∃ xs, o.data = .fields xs)
def Kw (s s' : Shared) : Prop := ∀ b o, s.heap.get? b = some o → 135 ≤ b → Pn o → s'.heap.get? b = some o
theorem Kw.trans {s s' s'' : Shared} (h : Kw s s') (g : Kw s' s'') : Kw s s'' := fun b o e hb p => g b o (h b o e hb p) hb p
theorem Go.kw {s s' : Shared} (G : Go [] s s') : Kw s s' := fun _ _ e hb _ => G.get e hb
theorem Lw.kw (b : Lw w s0 s L l cs) {s' : Shared} (hs : Heap.SameBut L s.heap s'.heap) : Kw s s' := by
  intro a o e _ p
  refine hs.extBut _ _ ?_ e
  rintro rfl
  obtain ⟨oL, es, ep, eL, dL⟩ := b.n.dict
  rw [e] at eL
  cases eL
  rcases p with ⟨xs, n, d⟩ | ⟨xs, d⟩ <;> rw [d] at dL <;> cases dL
theorem Lw.kwC (b : Lw w s0 s L l cs) {i : Nat} {v0 : Option Value} {s' : Shared} (hi : cs[i]? = some v0) (hs : Heap.SameBut (L + 1 + i) s.heap s'.heap) : Kw s s' := by
  intro a o e _ p
  refine hs.extBut _ _ ?_ e
  rintro rfl
  obtain ⟨oL, eL, dL⟩ := b.cl i _ hi
  rw [e] at eL
  cases eL
  rcases p with ⟨xs, n, d⟩ | ⟨xs, d⟩ <;> rw [d] at dL <;> cases dL
theorem Kw.ls {s s' : Shared} (h : Kw s s') {a : Nat} {vs : List Value} (hl : Ls s.heap a vs) (ha : 135 ≤ a) : Ls s'.heap a vs := by
  obtain ⟨n, e⟩ := hl
  exact ⟨n, h _ _ e ha (.inl ⟨_, _, rfl⟩)⟩
theorem la_heights {n ja : Nat} {tn : Tok} {us : List Value} {js : List (List Nat)} {c0 c1 c2 c4 : Option Value} {va vb vc vd : Value} {Q : Flow → Shared → Prop} (r : Rm 3 A) (B : Lw w s0 s L [("count", .int n tn), ("row", va), ("least", vb), ("words", vc), ("octets", vd)] [c0, c1, c2, some (.ref ja), c4]) (hl : Ls s.heap ja us) (hja : 135 ≤ ja) (hi : Txs us js) (hz : us.length ≤ 63) (h6 : n ≤ 6)
    (hQ : ∀ (a : Nat) xs s', Lw w s0 s' L [("count", .int n tn), ("row", va), ("least", vb), ("words", vc), ("octets", vd)] [c0, c1, c2, some (.ref ja), some (.ref a)] → Kw s s' → Ls s'.heap a xs → 135 ≤ a → Ints xs ((htF n js).map fun (k : Nat) => (k : Int)) → wpD w A (execs (laB.drop 2) (eLA L)) Q s') :
    wpD w A (execs (laB.drop 1) (eLA L)) Q s := by
  have N := B.n
  have h135 := B.L135
  have hl0 := B.l0
  refine D.execs_cons (D.of (asg (lcomp (cl := [("joined", L + 4)]) (by rfl) rfl (by rfl) (fun _ => rfl) (callT (fmLA L) B.c rfl (b_range _) rfl rfl rfl (sp1 rfl ?_))) (by rfl)))
  x_close
  refine range1 (by (first | lia | omega)) fun I h2' tk3 hI hIs hk2 => ?_
  have hIs : s.heap.objs.size ≤ I := hIs
  have hIz : I < h2'.objs.size := ltN hI
  have hLz : L < s.heap.objs.size := N.lt
  refine ⟨I, [I], [I], n, _, _, rfl, Walks.range (A := A) r.h I 0 1 _, hI, by (first | lia | omega), ?_, fun aa C haa hC => ?_⟩
  · intro b hb'
    obtain rfl : b = I := by simpa using hb'
    exact hIz
  have haa : h2'.objs.size = aa := haa
  refine ⟨fun i xs s5 => Ints xs (((List.range i).map fun p => cntF (97 + p) js).map fun (k : Nat) => (k : Int)) ∧ Nl s5.heap C [] ∧ (∃ v, s5.heap.IsCell (C + 1 : Nat) v) ∧ Go [] s s5, ?_, ?_, ?_, ?_, ?_⟩
  · rintro i xs s5 h' tk ⟨u1, u2, ⟨v, u3⟩, u4⟩ hk
    refine ⟨u1, u2.keeps fun o e => hk _ _ (ni2 ⟨by (first | lia | omega), by (first | lia | omega)⟩) e, ⟨v, ?_⟩, u4.ext hk (by simp; exact ⟨by show @LE.le Nat _ _ _; (first | lia | omega), hIs⟩)⟩
    obtain ⟨o, e, q⟩ := u3
    exact ⟨o, hk _ _ (ni2 ⟨by (first | lia | omega), by (first | lia | omega)⟩) e, q⟩
  · rintro i v xs s5 hi' ⟨tv, rfl⟩ hSt ⟨u1, u2, ⟨v0, u3⟩, u4⟩ hLs
    refine wpAny_pure (wpAny_assign_Name (wpAny_storeName_cell (env := cEnv _ _ C (eLA L)) (c := (C + 1 : Nat)) rfl (by rfl) (by rfl) u3 fun h6' hc6 hs6 => ?_))
    refine wpAny_pure ?_
    rw [if_pos rfl]
    have hs6 : Heap.SameBut (C + 1 : Nat) s5.heap h6' := hs6
    have G6 : Go [] s { s5 with heap := h6' } := u4.same (tk := s5.toks) hs6 (by show @LE.le Nat _ _ _; (first | lia | omega))
    have N6 : Nl h6' C [] := u2.but hs6 (neN (by (first | lia | omega)))
    have B6 := B.go G6
    have l6 : Ls h6' ja us := hl.go G6 hja
    have ei : (0 + (i : Int) * 1) = ((i : Nat) : Int) := by (first | lia | omega)
    rw [ei] at hc6
    refine cnt_e (env := cEnv _ _ C (eLA L)) (cl := [("place", C + 1)]) (cj := L + 4) (cp := C + 1) (pl := i) (tp := tv) (fm_c (fmLA L) rfl) B6.c r.h l6 hja hi hz (B6.cl 3 _ rfl) (by (first | lia | omega)) (by rfl) (by rfl) hc6 (by (first | lia | omega)) (by (first | lia | omega)) (by rfl) (by rfl) (by rfl) (by rfl) rfl (by rfl) (by rfl) (fun _ => by rfl) (by rfl) (by rfl) (fun _ => by rfl) (fun _ => by rfl) fun t7 s7 G7 => ⟨⟨?_, N6.go G7 (by show @LE.le Nat _ _ _; (first | lia | omega)), ⟨_, cell_go hc6 G7 (by show @LE.le Nat _ _ _; (first | lia | omega))⟩, G6.trans G7⟩, ?_⟩
    · rw [List.range_succ, List.map_append, List.map_append]
      exact u1.snoc
    · intro b hb' o e
      simp only [List.mem_cons, List.not_mem_nil, or_false] at hb'
      rcases hb' with rfl | rfl
      · exact G7.get (hs6.extBut _ o (neN (by (first | lia | omega))) e) (by show @LE.le Nat _ _ _; (first | lia | omega))
      · exact G7.get (hs6.extBut _ o (neN (by (first | lia | omega))) e) (by show @LE.le Nat _ _ _; (first | lia | omega))
  · intro h' hk N ok
    exact ⟨rfl, N, ⟨none, (ok.empty "place" (C + 1 : Nat) List.mem_cons_self).1⟩, .of_keeps fun b o e => hk b o (hk2 b o e)⟩
  · exact fun i us s5 u => u.2.1
  · rintro xs s5 h' ⟨u1, u2, u3, u4⟩ hL hs5
    have hs5 : Heap.SameBut C s5.heap h' := hs5
    have G6 : Go [] s { s5 with heap := h' } := u4.same (tk := s5.toks) hs5 (by show @LE.le Nat _ _ _; (first | lia | omega))
    have B6 := B.go G6
    refine B6.storeC (i := 4) (fmLA L) (by rfl) (by rfl) rfl fun s7 B7 hs7 => ?_
    exact hQ aa xs s7 B7 (G6.kw.trans (B6.kwC (i := 4) rfl hs7)) (B6.lsC (i := 4) hL rfl hs7) (by (first | lia | omega)) u1
end
end Mine
end

/-! Lj -/
section
open PySem PySem.W PySem.W.X PyProof.Rows PySem.Calls
open Sem (wp)
set_option Elab.async false
set_option maxRecDepth 100000
set_option maxHeartbeats 1000000
namespace Mine
/-- heights times weights -/
def priceL (n : Nat) (hs ws : List Nat) : List Nat := (List.range n).map fun p => hs.getD p 0 * ws.getD p 0
theorem nat_getD (r : List Nat) (i : Nat) : (r.map fun (k : Nat) => (k : Int)).getD i 0 = ((r.getD i 0 : Nat) : Int) := by
  rw [List.getD_eq_getElem?_getD, List.getD_eq_getElem?_getD, List.getElem?_map]
  cases r[i]? <;> rfl
theorem bits8 : ∀ k < 9, Builtin.Int.intBits ((k : Nat) : Int) ≤ 64 := by decide +kernel
section
variable {w : World} {A : Around} {s0 s s' : Shared} {L : Nat} {l l' : List (Str × Value)} {cs : List (Option Value)} {env : Env}
local macro_rules | `(tactic| x_close) => `(tactic| (repeat (first | with_reducible refine wpAny_BinOp ?_ | ((with_reducible apply ld (fmLA _)); assumption; rfl; rfl; rfl) | with_reducible refine wpAny_Constant_int ?_ | with_reducible refine wpAny_Constant_str ?_ | with_reducible refine add_int ?_ | with_reducible refine sub_int ?_)))
theorem la_price {n ha wa : Nat} {tn : Tok} {hv wv : List Value} {hs ws : List Nat} {c0 c1 c3 : Option Value} {va vb vc vd : Value} {Q : Flow → Shared → Prop} (r : Rm 3 A) (B : Lw w s0 s L [("count", .int n tn), ("row", va), ("least", vb), ("words", vc), ("octets", vd)] [c0, c1, some (.ref wa), c3, some (.ref ha)])
    (lh : Ls s.heap ha hv) (hha : 135 ≤ ha) (ih : Ints hv (hs.map fun (k : Nat) => (k : Int))) (lw : Ls s.heap wa wv) (hwa : 135 ≤ wa) (iw : Ints wv (ws.map fun (k : Nat) => (k : Int))) (h6 : n ≤ 6) (hhn : hs.length = n) (hwn : ws.length = n) (bh : ∀ k ∈ hs, k ≤ 100) (bw : ∀ k ∈ ws, k ≤ 8)
    (hQ : ∀ tp s', Lw w s0 s' L [("count", .int n tn), ("row", va), ("least", vb), ("words", vc), ("octets", vd), ("price", .int ((priceL n hs ws).sum : Nat) tp)] [c0, c1, some (.ref wa), c3, some (.ref ha)] → Kw s s' → wpD w A (execs (laB.drop 3) (eLA L)) Q s') :
    wpD w A (execs (laB.drop 2) (eLA L)) Q s := by
  have N := B.n
  have h135 := B.L135
  have hl0 := B.l0
  have hhl : hv.length = n := by rw [ih.len]; simpa using hhn
  have hwl : wv.length = n := by rw [iw.len]; simpa using hwn
  have gh : ∀ i, hs.getD i 0 ≤ 100 := by
    intro i
    rw [List.getD_eq_getElem?_getD]
    cases q : hs[i]? with
    | none => simp
    | some x => exact bh x (List.mem_of_getElem? q)
  have gw : ∀ i, ws.getD i 0 ≤ 8 := by
    intro i
    rw [List.getD_eq_getElem?_getD]
    cases q : ws[i]? with
    | none => simp
    | some x => exact bw x (List.mem_of_getElem? q)
  have gp : ∀ i, hs.getD i 0 * ws.getD i 0 ≤ 800 := fun i => Nat.mul_le_mul (gh i) (gw i)
  refine D.execs_cons (D.of (asg (callB (fmLA L) B.c rfl (b_sum _) rfl rfl rfl (sp1 rfl (lcomp (cl := [("weights", L + 3), ("heights", L + 5)]) (by rfl) rfl (by rfl) (fun _ => rfl) (callT (fmLA L) B.c rfl (b_range _) rfl rfl rfl (sp1 rfl ?_))))) (by rfl)))
  x_close
  refine range1 (by (first | lia | omega)) fun I h2' tk3 hI hIs hk2 => ?_
  have hIs : s.heap.objs.size ≤ I := hIs
  have hIz : I < h2'.objs.size := ltN hI
  have hLz : L < s.heap.objs.size := N.lt
  refine ⟨I, [I], [I], n, _, _, rfl, Walks.range (A := A) r.h I 0 1 _, hI, by (first | lia | omega), ?_, fun aa C haa hC => ?_⟩
  · intro b hb'
    obtain rfl : b = I := by simpa using hb'
    exact hIz
  have haa : h2'.objs.size = aa := haa
  refine ⟨fun i xs s5 => Ints xs (((List.range i).map fun p => hs.getD p 0 * ws.getD p 0).map fun (k : Nat) => (k : Int)) ∧ Nl s5.heap C [] ∧ Go [] s s5, ?_, ?_, ?_, ?_, ?_⟩
  · rintro i xs s5 h' tk ⟨u1, u2, u4⟩ hk
    exact ⟨u1, u2.keeps fun o e => hk _ _ (ni2 ⟨by (first | lia | omega), by (first | lia | omega)⟩) e, u4.ext hk (by simp; exact ⟨by show @LE.le Nat _ _ _; (first | lia | omega), hIs⟩)⟩
  · rintro i v xs s5 hi' ⟨tv, rfl⟩ hSt ⟨u1, u2, u4⟩ hLs
    have ei : (0 + (i : Int) * 1) = ((i : Nat) : Int) := by (first | lia | omega)
    rw [ei]
    refine wpAny_pure (assignN (env := cEnv _ _ C (eLA L)) (fm_c (fmLA L) rfl) u2 (by rfl) (l' := [("place", .int i tv)]) (by rfl) fun h6 N6 hs6 => ?_)
    refine wpAny_pure ?_
    rw [if_pos rfl]
    have hs6 : Heap.SameBut C s5.heap h6 := hs6
    have G6 : Go [] s { s5 with heap := h6, toks := s5.toks + 1 } := u4.same hs6 (by show @LE.le Nat _ _ _; (first | lia | omega))
    have B6 := B.go G6
    have lh6 : Ls h6 ha hv := lh.go G6 hha
    have lw6 : Ls h6 wa wv := lw.go G6 hwa
    have e1 : hv[i]? = some (hv[i]'(by (first | lia | omega))) := List.getElem?_eq_getElem (by (first | lia | omega))
    have e2 : wv[i]? = some (wv[i]'(by (first | lia | omega))) := List.getElem?_eq_getElem (by (first | lia | omega))
    obtain ⟨t1, et1⟩ := ih.at e1
    obtain ⟨t2, et2⟩ := iw.at e2
    refine wpAny_BinOp (wpAny_Subscript_Name_late (ldc (fm_c (fmLA L) rfl) (B6.cl 4 _ rfl) (by rfl) (by rfl) rfl (ld (fm_c (fmLA L) rfl) N6 (v := .int i tv) (by rfl) (by rfl) rfl (sub_ls (k := i) (vs := hv) lh6 (by (first | lia | omega)) e1 ?_))))
    refine wpAny_Subscript_Name_late (ldc (fm_c (fmLA L) rfl) (B6.cl 2 _ rfl) (by rfl) (by rfl) rfl (ld (fm_c (fmLA L) rfl) N6 (v := .int i tv) (by rfl) (by rfl) rfl (sub_ls (k := i) (vs := wv) lw6 (by (first | lia | omega)) e2 ?_)))
    rw [et1, et2, nat_getD, nat_getD]
    have g1 := gh i
    have g2 := gw i
    refine mul_int ⟨⟨?_, N6.nil, G6.tok _⟩, ?_⟩ (.of_right (bits8 _ (by (first | lia | omega))))
    · rw [List.range_succ, List.map_append, List.map_append]
      rw [show ((hs.getD i 0 : Nat) : Int) * ((ws.getD i 0 : Nat) : Int) = ((hs.getD i 0 * ws.getD i 0 : Nat) : Int) by push_cast; rfl]
      exact u1.snoc
    · intro b hb' o e
      simp only [List.mem_cons, List.not_mem_nil, or_false] at hb'
      rcases hb' with rfl | rfl
      · exact hs6.extBut _ o (neN (by (first | lia | omega))) e
      · exact hs6.extBut _ o (neN (by (first | lia | omega))) e
  · intro h' hk N ok
    exact ⟨rfl, N, .of_keeps fun b o e => hk b o (hk2 b o e)⟩
  · exact fun i us s5 u => u.2.1
  · rintro xs s5 h' ⟨u1, u2, u4⟩ hL hs5
    have hs5 : Heap.SameBut C s5.heap h' := hs5
    have G6 : Go [] s { s5 with heap := h' } := u4.same (tk := s5.toks) hs5 (by show @LE.le Nat _ _ _; (first | lia | omega))
    refine sum_ints (ws := ((priceL n hs ws).map fun (k : Nat) => (k : Int))) r.h hL u1 (fun x hx => ?_) (by unfold priceL; simp; (first | lia | omega)) fun t s7 G7 => ?_
    · obtain ⟨k, hk, rfl⟩ := List.mem_map.mp hx
      obtain ⟨p, _, rfl⟩ := List.mem_map.mp hk
      have := gp p
      (first | lia | omega)
    rw [sum_int]
    have G7 : Go [] { s5 with heap := h' } s7 := ⟨G7.keep, G7.gens, G7.dr, G7.os, G7.tab⟩
    have G67 := G6.trans G7
    have B7 := B.go G67
    refine B7.store [("count", .int n tn), ("row", va), ("least", vb), ("words", vc), ("octets", vd), ("price", .int ((priceL n hs ws).sum : Nat) t)] (fmLA L) rfl (by rfl) (by rfl) fun s8 B8 hs8 => ?_
    exact hQ t s8 B8 (G67.kw.trans (B7.kw hs8))
end
end Mine
end

/-! Lk -/
section
open PySem PySem.W PySem.W.X PyProof.Rows PySem.Calls
open Sem (wp)
set_option Elab.async false
set_option maxRecDepth 100000
set_option maxHeartbeats 1000000
namespace Mine
theorem k_tree (P : Params) : nsIn (KF P) 3 "_law_tree" = some (some (.ref 129)) := by kernel_rfl
section
variable {w : World} {A : Around} {s : Shared} {env : Env}
theorem ne_nested {a b t1 t2 : Nat} {P : Int} {x : Str} {u1 u2 u3 u4 u5 u6 : Tok} {Q : Value → Shared → Prop} (hu : A.units < cLine) (hu1 : A.in1.units < cLine) (ha : Ls s.heap a [.bool true, .ref t1, .int P u1]) (hb : Ls s.heap b [.bool true, .ref t2, .int P u2])
    (h1 : Ls s.heap t1 [.int (1 : Nat) u3, .str x u4]) (h2 : Ls s.heap t2 [.int 1 u5, .str x u6]) (hne : t1 ≠ t2) (h : Q (.bool false) s) : wpN w A (compareOp .NotEq (.ref a) (.ref b)) Q s := by
  have inner : SeqAt.RcAt A.in1 s (.ref t1) (.ref t2) true := by
    have := SeqAt.RcAt.lists (A := A.in1) (s := s) (e := fun _ => true) h1.isList h2.isList (by rfl) hu1 (fun j g1 g2 => ?_)
    · exact this
    · match j, g1 with
      | 0, _ =>
        have := SeqAt.EqAt.int_int (A := A.in1.in1) (s := s) ((1 : Nat) : Int) u3 1 u5
        exact this
      | 1, _ =>
        have := SeqAt.EqAt.str_str (A := A.in1.in1) (s := s) x u4 x u6
        rw [beq_self_eq_true] at this
        exact this
  refine SeqAt.RcNeAt.lists (e := fun _ => true) ha.isList hb.isList (by rfl) hu (fun j g1 g2 => ?_) pr w No Q h
  match j, g1 with
  | 0, _ => exact SeqAt.EqAt.bool_bool (A := A.in1) (s := s) true true
  | 1, _ => exact SeqAt.EqAt.of_refs (neN hne) inner
  | 2, _ =>
    have := SeqAt.EqAt.int_int (A := A.in1) (s := s) P u1 P u2
    rw [beq_self_eq_true] at this
    exact this
end
/-- the first n letters -/
def ltrs (n : Nat) : List Nat := [97, 98, 99, 100, 101, 102].take n
/-- the tree of these heights is one piece, all letters in order -/
def TreeOk (n : Nat) (hs : List Nat) : Prop := (treeS hs n).length = 1 ∧ strT (pcs (treeS hs n)) = S (ltrs n)
section
variable {w : World} {A : Around} {s0 s s' : Shared} {L : Nat} {l l' : List (Str × Value)} {cs : List (Option Value)} {env : Env}
local macro_rules | `(tactic| x_close) => `(tactic| (repeat (first | with_reducible refine wpAny_BinOp ?_ | ((with_reducible apply ld (fmLA _)); assumption; rfl; rfl; rfl) | with_reducible refine wpAny_Constant_int ?_ | with_reducible refine wpAny_Constant_str ?_ | with_reducible refine add_int ?_ | with_reducible refine sub_int ?_)))
theorem la_if {n ha : Nat} {tn tl tp to : Tok} {hv : List Value} {hs oc : List Nat} {c0 c1 c2 c3 : Option Value} {va vc : Value} {ls : Int} {Q : Flow → Shared → Prop} (r : Rm 10 A) (tb0 : Tbs s0.heap) (B : Lw w s0 s L [("count", .int n tn), ("row", va), ("least", .int ls tl), ("words", vc), ("octets", .bytes (Bt oc) to), ("price", .int ls tp)] [c0, c1, c2, c3, some (.ref ha)])
    (lh : Ls s.heap ha hv) (hha : 135 ≤ ha) (ih : Ints hv (hs.map fun (k : Nat) => (k : Int))) (h6 : n ≤ 6) (hhn : hs.length = n) (bh : ∀ k ∈ hs, k ≤ 100) (hT : TreeOk n hs)
    (hQ : ∀ s', Lw w s0 s' L [("count", .int n tn), ("row", va), ("least", .int ls tl), ("words", vc), ("octets", .bytes (Bt oc) to), ("price", .int ls tp)] [c0, c1, c2, c3, some (.ref ha)] → Go [] s s' → Q .next s') :
    wpD w A (execs (laB.drop 3) (eLA L)) Q s := by
  have N := B.n
  refine D.of (seqn (wpAny_If (wpAny_isTrue_Compare1 (wpAny_List (sp3 rfl (callB (fmLA L) B.c rfl (b_isinstance _) rfl rfl rfl (sp2 rfl ?_)))))))
  refine ld (fmLA L) N (v := .bytes (Bt oc) to) (by rfl) (by rfl) rfl ?_
  refine ev_biF (fmLA L) B.c rfl (b_bytes _) (is_bytes ?_) rfl
  refine callF (fmLA L) B.c rfl (k_tree _) (kTR _) rfl rfl (sp1 rfl (ldc (fmLA L) (B.cl 4 _ rfl) (by rfl) (by rfl) rfl ⟨B.c, ?_⟩))
  refine tree_call B.c (B.g.tab tb0) (r.mono (by (first | lia | omega))) lh hha ih (by (first | lia | omega)) bh fun t1 ta tb s1 l1 ht1 G1 => ?_
  rw [hhn, hT.1, hT.2] at l1
  have B1 := B.go G1
  have h1s : t1 < s1.heap.objs.size := ltN (Classical.choose_spec l1)
  have N := B1.n
  refine ld (fmLA L) N (v := .int ls tp) (by rfl) (by rfl) rfl ⟨by show 3 ≤ sizeLine; rw [sizeLine]; decide, ?_⟩
  have k2 : ∀ y o, s1.heap.get? y = some o → (s1.heap.push (liO [.bool true, .ref t1, .int ls tp])).get? y = some o := fun y o e => Heap.get?_push_of_some _ e
  have G2 : Go [] s1 { s1 with heap := s1.heap.push (liO [.bool true, .ref t1, .int ls tp]) } := .of_keeps k2
  have LA2 : Ls (s1.heap.push (liO [.bool true, .ref t1, .int ls tp])) s1.heap.objs.size [.bool true, .ref t1, .int ls tp] := ⟨_, Heap.get?_push_size _ rfl⟩
  have l2 := l1.keeps (k2 t1)
  have hz2 : (s1.heap.push (liO [.bool true, .ref t1, .int ls tp])).objs.size = s1.heap.objs.size + 1 := Heap.size_push ..
  show wpAny _ _ (eval _ _) _ _ { s1 with heap := s1.heap.push (liO [.bool true, .ref t1, .int ls tp]) }
  generalize ea : s1.heap.objs.size = aA at LA2 hz2
  generalize hs2 : ({ s1 with heap := s1.heap.push (liO [.bool true, .ref t1, .int ls tp]) } : Shared) = s2 at G2
  have eh2 : s1.heap.push (liO [.bool true, .ref t1, .int ls tp]) = s2.heap := by rw [← hs2]
  rw [eh2] at LA2 l2 hz2 k2
  clear hs2 eh2
  have B2 := B1.go G2
  have N := B2.n
  refine wpAny_List (sp3 rfl ?_)
  refine wpAny_Constant_bool ?_
  refine wpAny_List (sp2 rfl (wpAny_Constant_int (to_s (wpAny_Constant_str ?_))))
  rw [evalPart_some]
  refine ld (fmLA L) N (v := .int n tn) (by rfl) (by rfl) rfl ?_
  refine ⟨[97, 98, 99, 100, 101, 102], _, n, tn, by rfl, rfl, by simp; (first | lia | omega), by simp, fun t6 s6 G6 k6 => ⟨by show 2 ≤ sizeLine; rw [sizeLine]; decide, ?_⟩⟩
  have G26 : Go [] s2 s6 := ((Go.refl [] s2).tok _).trans G6
  have k26 : ∀ b o, s2.heap.get? b = some o → s6.heap.get? b = some o := k6
  have LA6 := LA2.keeps (k26 aA)
  have l6 := l2.keeps (k26 t1)
  have B6 := B2.go G26
  have hz6 : aA < s6.heap.objs.size := ltN (Classical.choose_spec LA6)
  have ht6 : t1 < s6.heap.objs.size := ltN (Classical.choose_spec l6)
  clear G6 k6
  generalize htl : (s2.toks : Tok) = tk
  have k7 : ∀ y o, s6.heap.get? y = some o → (s6.heap.push (liO [.int 1 tk, .str (S (List.take n [97, 98, 99, 100, 101, 102])) t6])).get? y = some o := fun y o e => Heap.get?_push_of_some _ e
  show wpAny _ _ (eval _ _) _ _ { s6 with heap := s6.heap.push (liO [.int 1 tk, .str (S (List.take n [97, 98, 99, 100, 101, 102])) t6]) }
  have G7 : Go [] s6 { s6 with heap := s6.heap.push (liO [.int 1 tk, .str (S (List.take n [97, 98, 99, 100, 101, 102])) t6]) } := .of_keeps k7
  have B7 := B6.go G7
  have N := B7.n
  refine ld (fmLA L) N (v := .int ls tl) (by rfl) (by rfl) rfl ⟨by show 3 ≤ sizeLine; rw [sizeLine]; decide, ?_⟩
  have LB7 : Ls (s6.heap.push (liO [.int 1 tk, .str (S (List.take n [97, 98, 99, 100, 101, 102])) t6])) s6.heap.objs.size [.int 1 tk, .str (S (List.take n [97, 98, 99, 100, 101, 102])) t6] := ⟨_, Heap.get?_push_size _ rfl⟩
  have hz7 : (s6.heap.push (liO [.int 1 tk, .str (S (List.take n [97, 98, 99, 100, 101, 102])) t6])).objs.size = s6.heap.objs.size + 1 := Heap.size_push ..
  have LA7 := LA6.keeps (k7 aA)
  have l7 := l6.keeps (k7 t1)
  generalize hh7 : s6.heap.push (liO [.int 1 tk, .str (S (List.take n [97, 98, 99, 100, 101, 102])) t6]) = h7 at *
  generalize ebB : s6.heap.objs.size = bB at *
  have k8 : ∀ y o, h7.get? y = some o → (h7.push (liO [.bool true, .ref bB, .int ls tl])).get? y = some o := fun y o e => Heap.get?_push_of_some _ e
  have LC8 : Ls (h7.push (liO [.bool true, .ref bB, .int ls tl])) h7.objs.size [.bool true, .ref bB, .int ls tl] := ⟨_, Heap.get?_push_size _ rfl⟩
  have LA8 := LA7.keeps (k8 aA)
  have LB8 := LB7.keeps (k8 bB)
  have l8 := l7.keeps (k8 t1)
  have G8 : Go [] { s6 with heap := h7 } { s6 with heap := h7.push (liO [.bool true, .ref bB, .int ls tl]) } := .of_keeps k8
  have B8 := B7.go G8
  show wpAny _ _ (compareOp _ _ _) _ _ { s6 with heap := h7.push (liO [.bool true, .ref bB, .int ls tl]) }
  have GG : Go [] s { s6 with heap := h7.push (liO [.bool true, .ref bB, .int ls tl]) } := (((G1.trans G2).trans G26).trans G7).trans G8
  generalize h7.push (liO [.bool true, .ref bB, .int ls tl]) = h8 at *
  have htb : t1 ≠ bB := by (first | lia | omega)
  refine ne_nested r.units (r.in1.units) LA8 LC8 l8 LB8 htb (truthy_bool ?_)
  rw [if_neg (by decide)]
  exact wpAny_execs_nil (wpAny_execs_nil (hQ _ B8 GG))
end
end Mine
end

/-! Lm -/
section
open PySem PySem.W PySem.W.X PyProof.Rows PySem.Calls
open Sem (wp)
set_option Elab.async false
set_option maxRecDepth 100000
set_option maxHeartbeats 1000000
namespace Mine
theorem k_jo (P : Params) : nsIn (KF P) 3 "_law_joined" = some (some (.ref 122)) := by kernel_rfl
theorem gw_length : ∀ (n : Nat) (ps : List (List Nat)), (gw n ps).length ≤ n
  | 0, _ => by simp [gw]
  | n + 1, ps => by
    rw [gw]
    split
    · simp
    · have := gw_length n (gstep ps).2
      simpa using this
/-- what the joined texts of a row give -/
def heightsOf (ws : List Nat) : List Nat := htF ws.length (gw ws.length (leavesN ws ws.length))
/-- the plain law of a row: the heights are a tree's, and the price is k -/
def Good (ws : List Nat) (k : Int) : Prop := TreeOk ws.length (heightsOf ws) ∧ (((priceL ws.length (heightsOf ws) ws).sum : Nat) : Int) = k
section
variable {w : World} {A : Around} {s0 s s' : Shared} {L : Nat} {l l' : List (Str × Value)} {cs : List (Option Value)} {env : Env}
local macro_rules | `(tactic| x_close) => `(tactic| (repeat (first | with_reducible refine wpAny_BinOp ?_ | ((with_reducible apply ld (fmLA _)); assumption; rfl; rfl; rfl) | with_reducible refine wpAny_Constant_int ?_ | with_reducible refine wpAny_Constant_str ?_ | with_reducible refine add_int ?_ | with_reducible refine sub_int ?_)))
theorem la_body {n aw : Nat} {tn tl to : Tok} {wv : List Value} {ws : List Nat} {c0 c1 c3 c4 : Option Value} {va vc : Value} {ls : Int} {Q : Flow → Shared → Prop} (r : Rm 10 A) (tb0 : Tbs s0.heap) (B : Lw w s0 s L [("count", .int n tn), ("row", va), ("least", .int ls tl), ("words", vc), ("octets", .bytes (Bt ws) to)] [c0, c1, some (.ref aw), c3, c4])
    (lw : Ls s.heap aw wv) (haw : 135 ≤ aw) (iw : Ints wv (ws.map fun (k : Nat) => (k : Int))) (h4 : 4 ≤ n) (h6 : n ≤ 6) (hn : ws.length = n) (bw : ∀ k ∈ ws, 1 ≤ k ∧ k ≤ 8) (hG : Good ws ls)
    (hQ : ∀ c3' c4' s', Lw w s0 s' L [("count", .int n tn), ("row", va), ("least", .int ls tl), ("words", vc)] [c0, c1, some (.ref aw), c3', c4'] → Kw s s' → Q .next s') :
    wpD w A (execs laB (eLA L)) Q s := by
  have N := B.n
  have h135 := B.L135
  have r' := r.mono (j := 3) (by (first | lia | omega))
  refine D.execs_cons (D.assign (D.callF (fmLA L) B.c rfl (k_jo _) (kJO _) rfl rfl rfl (sp2 rfl ?_)) (by rfl))
  refine ld (fmLA L) N (v := .bytes (Bt ws) to) (by rfl) (by rfl) rfl ?_
  refine ldc (fmLA L) (B.cl 2 _ rfl) (by rfl) (by rfl) rfl ⟨B.c, ?_⟩
  refine joined_call B.c (B.g.tab tb0) (r.mono (by (first | lia | omega))) lw haw iw (by (first | lia | omega)) (by (first | lia | omega)) bw fun ja us s1 l1 i1 hja G1 => ?_
  have B1 := B.go G1
  have lw1 := lw.go G1 haw
  refine B1.storeC (i := 3) (fmLA L) (by rfl) (by rfl) rfl fun s2 B2 hs2 => ?_
  have K2 := G1.kw.trans (B1.kwC (i := 3) rfl hs2)
  have l2 := B1.lsC (i := 3) l1 rfl hs2
  have hgl := gw_length ws.length (leavesN ws ws.length)
  refine la_heights (ja := ja) (us := us) (js := gw ws.length (leavesN ws ws.length)) r' B2 l2 hja i1 (by rw [i1.len]; (first | lia | omega)) h6 fun ha hv s3 B3 K3 l3 hha i3 => ?_
  have ehs : htF n (gw ws.length (leavesN ws ws.length)) = heightsOf ws := by rw [← hn]; rfl
  rw [ehs] at i3
  have hhn : (heightsOf ws).length = n := by unfold heightsOf htF; simpa using hn
  have bh : ∀ k ∈ heightsOf ws, k ≤ 100 := by
    intro k hk
    obtain ⟨p, _, rfl⟩ := List.mem_map.mp hk
    have : cntF (97 + p) (gw ws.length (leavesN ws ws.length)) ≤ (gw ws.length (leavesN ws ws.length)).length := List.length_filter_le _ _
    (first | lia | omega)
  have K23 := K2.trans K3
  refine la_price r' B3 l3 hha i3 (K23.ls lw haw) haw iw h6 hhn hn bh (fun k hk => (bw k hk).2) fun tp s4 B4 K4 => ?_
  obtain ⟨g1, g2⟩ := hG
  rw [hn] at g1 g2
  rw [g2] at B4
  refine la_if (hs := heightsOf ws) r tb0 B4 (K4.ls l3 hha) hha i3 h6 hhn bh g1 fun s5 B5 G5 => ?_
  exact hQ _ _ s5 (B5.sub (by rfl)) ((K23.trans K4).trans G5.kw)
end
end Mine
end

/-! Lq -/
section
open PySem PySem.W PySem.W.X PyProof.Rows PySem.Calls
open Sem (wp)
set_option Elab.async false
set_option maxRecDepth 100000
set_option maxHeartbeats 1000000
namespace Mine
def tuO (vs : List Value) : Obj := { cls := .type "tuple", data := .seq vs.toArray }
section
variable {w : World} {A : Around} {s0 s s' : Shared} {L : Nat} {l l' : List (Str × Value)} {cs : List (Option Value)} {env : Env}
local macro_rules | `(tactic| x_close) => `(tactic| (repeat (first | with_reducible refine wpAny_BinOp ?_ | ((with_reducible apply ld (fmLA _)); assumption; rfl; rfl; rfl) | with_reducible refine wpAny_Constant_int ?_ | with_reducible refine wpAny_Constant_str ?_ | with_reducible refine add_int ?_ | with_reducible refine sub_int ?_)))
theorem Kw.of_keeps {h' : Heap} {tk : Nat} (hk : ∀ b o, s.heap.get? b = some o → h'.get? b = some o) : Kw s { s with heap := h', toks := tk } := fun b o e _ _ => hk b o e
theorem Lw.asg2 {t : Addr} {va vb : Value} {v0 : Option Value} {xa xb : Str} {pa pb pt : Pos} {kt i : Nat} {Q : Unit → Shared → Prop} (b : Lw w s0 s L l cs) (hh : A.handled = none) (ht : s.heap.IsTuple t #[va, vb]) (l' : List (Str × Value)) (f : Fm env) (hL : env.locals = L)
    (ha : env.kindOf xa = some .local) (e : l'.map (fun p => ((xa, va) :: l).lookup p.1) = l'.map (fun p => some p.2)) (hb : env.kindOf xb = some .cell) (hc : env.cells.lookup xb = some (L + 1 + i)) (hi : cs[i]? = some v0)
    (h : ∀ u', Lw w s0 u' L l' (cs.set i (some vb)) → Kw s u' → Q () u') : wpN w A (assign (.Tuple [.Name xa pa, .Name xb pb] kt pt) env (.ref t)) Q s := by
  refine wpAny_assign_Tuple hh ht rfl rfl fun h1 hx1 => ?_
  have k1 : ∀ b o, s.heap.get? b = some o → h1.get? b = some o := fun b o e => hx1 b o (Nat.ne_of_lt (Heap.lt_size e)) e
  show wpAny _ _ (do holding [vb] (assign (.Name xa pa) env va); do holding [] (assign (.Name xb pb) env vb); pure ()) _ _ _
  have b1 := b.go (Go.of_keeps (W := []) (tk := s.toks) k1)
  refine wpAny_bind (wpAny_holding (wpAny_assign_Name (b1.store l' f hL ha e fun s2 b2 hs2 => ?_)))
  refine wpAny_bind (wpAny_holding (wpAny_assign_Name (b2.storeC (i := i) f hb hc hi fun s3 b3 hs3 => ?_)))
  exact wpAny_pure (h s3 b3 (((Kw.of_keeps (tk := s.toks) k1).trans (b1.kw hs2)).trans (b2.kwC hi hs3)))
theorem la_loop {n ar : Nat} {tn tl tw : Tok} {us : List Value} {ws : List Nat} {c0 c1 c2 c3 c4 : Option Value} {ls : Int} {Q : Flow → Shared → Prop} (r : Rm 10 A) (tb0 : Tbs s0.heap) (B : Lw w s0 s L [("count", .int n tn), ("row", .ref ar), ("least", .int ls tl), ("words", .bytes (Bt (ws ++ ws.reverse)) tw)] [c0, c1, c2, c3, c4])
    (hl : Ls s.heap ar us) (har : 135 ≤ ar) (hi : Ints us (ws.map fun (k : Nat) => (k : Int))) (h4 : 4 ≤ n) (hn6 : n ≤ 6) (hn : ws.length = n) (bw : ∀ k ∈ ws, 1 ≤ k ∧ k ≤ 8) (hG : Good ws ls) (hG2 : Good ws.reverse ls)
    (hQ : ∀ s', Cx w s'.heap → Go [] s0 s' → Q (.ret (.bool true)) s') :
    wpD w A (execs (laS.drop 5) (eLA L)) Q s := by
  have N := B.n
  have h135 := B.L135
  have hul : us.length = n := by rw [hi.len]; simpa using hn
  have hL5 : L + 5 < s.heap.objs.size := by obtain ⟨o, e, _⟩ := B.cl 4 _ rfl; exact ltN e
  refine D.execs_cons (D.exec_for (wpAny_List (sp2 rfl (wpAny_Tuple (sp2 rfl (slice_bt ?_ (fun _ _ => rfl)))))) (fun _ => rfl))
  refine ld (fmLA L) N (v := .bytes (Bt (ws ++ ws.reverse)) tw) (by rfl) (by rfl) rfl ?_
  rw [evalPart_none]
  refine wpAny_pure ?_
  rw [evalPart_some]
  refine ld (fmLA L) N (v := .int n tn) (by rfl) (by rfl) rfl ?_
  refine ⟨ws ++ ws.reverse, tw, _, _, 0, n, rfl, by simp; (first | lia | omega), .none, .int _ _, sb_to (by simp; (first | lia | omega)), fun t1 s1 k1 G1 => ?_⟩
  have B1 := B.go G1
  have l1 := hl.go G1 har
  have N := B1.n
  refine ld (fmLA L) N (v := .ref ar) (by rfl) (by rfl) rfl ⟨by show 2 ≤ sizeLine; rw [sizeLine]; decide, ?_⟩
  have ed1 : ((ws ++ ws.reverse).drop 0).take (n - 0) = ws := by rw [List.drop_zero, Nat.sub_zero, List.take_append_of_le_length (by (first | lia | omega)), List.take_of_length_le (by (first | lia | omega))]
  rw [ed1]
  have k2 : ∀ y o, s1.heap.get? y = some o → (s1.heap.push (tuO [.bytes (Bt ws) t1, .ref ar])).get? y = some o := fun y o e => Heap.get?_push_of_some _ e
  have T2 : (s1.heap.push (tuO [.bytes (Bt ws) t1, .ref ar])).IsTuple s1.heap.objs.size #[.bytes (Bt ws) t1, .ref ar] := ⟨_, Heap.get?_push_size _ rfl, rfl, _, rfl⟩
  show wpAny _ _ (eval _ _) _ _ { s1 with heap := s1.heap.push (tuO [.bytes (Bt ws) t1, .ref ar]) }
  have G2 : Go [] s1 { s1 with heap := s1.heap.push (tuO [.bytes (Bt ws) t1, .ref ar]) } := .of_keeps k2
  have eT0 : (s1.heap.objs.size : Nat) = s1.heap.objs.size := rfl
  generalize hT0 : (s1.heap.objs.size : Nat) = T0 at *
  generalize hs2 : ({ s1 with heap := s1.heap.push (tuO [.bytes (Bt ws) t1, .ref ar]) } : Shared) = s2 at *
  have eh2 : s1.heap.push (tuO [.bytes (Bt ws) t1, .ref ar]) = s2.heap := by rw [← hs2]
  rw [eh2] at T2 k2
  clear eh2 hs2 eT0
  have B2 := B1.go G2
  have l2 := l1.go G2 har
  have N := B2.n
  refine wpAny_Tuple (sp2 rfl (slice_bt ?_ (fun _ _ => rfl)))
  refine ld (fmLA L) N (v := .bytes (Bt (ws ++ ws.reverse)) tw) (by rfl) (by rfl) rfl ?_
  rw [evalPart_some]
  refine ld (fmLA L) N (v := .int n tn) (by rfl) (by rfl) rfl ?_
  rw [evalPart_none]
  refine wpAny_pure ?_
  refine ⟨ws ++ ws.reverse, tw, _, _, n, (ws ++ ws.reverse).length, rfl, by simp; (first | lia | omega), .int _ _, .none, sl_bounds (by simp; (first | lia | omega)), fun t3 s3 k3 G3 => ?_⟩
  have ed2 : ((ws ++ ws.reverse).drop n).take ((ws ++ ws.reverse).length - n) = ws.reverse := by
    rw [List.drop_append_of_le_length (by (first | lia | omega)), List.drop_of_length_le (by (first | lia | omega)), List.nil_append]
    apply List.take_of_length_le
    simp; (first | lia | omega)
  rw [ed2]
  have B3 := B2.go G3
  have l3 := l2.keeps (k3 _)
  have T3 := T2.at (k3 _)
  have N := B3.n
  refine rev_ls ?_ (fun _ _ => rfl)
  refine ld (fmLA L) N (v := .ref ar) (by rfl) (by rfl) rfl ?_
  refine uminus (k := 0) (t := 0) (wpAny_Constant_int ⟨1, _, rfl, fun t' => ?_⟩)
  refine ⟨ar, us, t', rfl, rfl, l3, by (first | lia | omega), fun ar2 s4 har2 l4' k4 G4 => ⟨by show 2 ≤ sizeLine; rw [sizeLine]; decide, ?_⟩⟩
  have B4 := (B3.tok _).go G4
  have l4 : Ls s4.heap ar us := l3.keeps (k4 _)
  have T4 : s4.heap.IsTuple T0 #[.bytes (Bt ws) t1, .ref ar] := T3.at (k4 _)
  have k5 : ∀ y o, s4.heap.get? y = some o → (s4.heap.push (tuO [.bytes (Bt ws.reverse) t3, .ref ar2])).get? y = some o := fun y o e => Heap.get?_push_of_some _ e
  have U5 : (s4.heap.push (tuO [.bytes (Bt ws.reverse) t3, .ref ar2])).IsTuple s4.heap.objs.size #[.bytes (Bt ws.reverse) t3, .ref ar2] := ⟨_, Heap.get?_push_size _ rfl, rfl, _, rfl⟩
  refine ⟨by show 2 ≤ sizeLine; rw [sizeLine]; decide, ?_⟩
  generalize hT1 : (s4.heap.objs.size : Nat) = T1 at U5 ⊢
  have hz5 : (s4.heap.push (tuO [.bytes (Bt ws.reverse) t3, .ref ar2])).objs.size = T1 + 1 := by rw [← hT1]; exact Heap.size_push ..
  show wpAny _ _ (pyIter (.ref (s4.heap.push (tuO [.bytes (Bt ws.reverse) t3, .ref ar2])).objs.size)) _ _ { s4 with heap := (s4.heap.push (tuO [.bytes (Bt ws.reverse) t3, .ref ar2])).push (liO [.ref T0, .ref T1]) }
  generalize s4.heap.push (tuO [.bytes (Bt ws.reverse) t3, .ref ar2]) = h5 at k5 U5 hz5 ⊢
  have k6 : ∀ y o, h5.get? y = some o → (h5.push (liO [.ref T0, .ref T1])).get? y = some o := fun y o e => Heap.get?_push_of_some _ e
  have L6 : Ls (h5.push (liO [.ref T0, .ref T1])) h5.objs.size [.ref T0, .ref T1] := ⟨_, Heap.get?_push_size _ rfl⟩
  have hz6 : (h5.push (liO [.ref T0, .ref T1])).objs.size = T1 + 1 + 1 := by rw [Heap.size_push, hz5]
  rw [hz5] at L6 ⊢
  have k46 : ∀ y o, s4.heap.get? y = some o → (h5.push (liO [.ref T0, .ref T1])).get? y = some o := fun y o e => k6 _ _ (k5 _ _ e)
  have U6 := U5.at (k6 _)
  have T6 := T4.at (k46 _)
  refine ls_iter (s := { s4 with heap := h5.push (liO [.ref T0, .ref T1]) }) L6 ?_
  show codeD w A (.forLoop _ (.ref (h5.push (liO [.ref T0, .ref T1])).objs.size) _ _ _) _ { s4 with heap := (h5.push (liO [.ref T0, .ref T1])).push (liI (T1 + 1)) }
  rw [hz6]
  generalize h5.push (liO [.ref T0, .ref T1]) = h6 at *
  have k7 : ∀ y o, h6.get? y = some o → (h6.push (liI (T1 + 1))).get? y = some o := fun y o e => Heap.get?_push_of_some _ e
  have I7 : (h6.push (liI (T1 + 1))).IsListIter (T1 + 1 + 1) (T1 + 1) 0 := ⟨_, by rw [← hz6]; exact Heap.get?_push_size _ rfl, rfl, rfl⟩
  have L7 := L6.keeps (k7 _)
  have U7 := U6.at (k7 _)
  have T7 := T6.at (k7 _)
  have k47 : ∀ y o, s4.heap.get? y = some o → (h6.push (liI (T1 + 1))).get? y = some o := fun y o e => k7 _ _ (k46 _ _ e)
  have l7 : Ls (h6.push (liI (T1 + 1))) ar us := l4.keeps (k47 _)
  have l7' : Ls (h6.push (liI (T1 + 1))) ar2 us.reverse := l4'.keeps (k47 _)
  have B7 := B4.go (s' := { s4 with heap := h6.push (liI (T1 + 1)) }) (.of_keeps k47)
  generalize h6.push (liI (T1 + 1)) = h7 at *
  have hz0 : L + 5 < T0 := by obtain ⟨o, e, _⟩ := B1.cl 4 _ rfl; have := ltN e; (first | lia | omega)
  have hz1 : T0 < T1 := by obtain ⟨o, e, _⟩ := T4; have := ltN e; (first | lia | omega)
  have hza : ar < T1 := by have := ltN (Classical.choose_spec l4); (first | lia | omega)
  have hzb : ar2 < T1 := by have := ltN (Classical.choose_spec l4'); (first | lia | omega)
  have har2' : 135 ≤ ar2 := by have := B3.c.size; have : @LE.le Nat _ s3.heap.objs.size ar2 := har2; (first | lia | omega)
  have hulr : Ints us.reverse (ws.reverse.map fun (k : Nat) => (k : Int)) := by rw [List.map_reverse]; exact hi.reverse
  have body : ∀ (T a : Nat) (tt : Tok) (wv : List Value) (wx : List Nat) (u : Shared) (x2 x3 x4 : Option Value) (elts : List Expr), Lw w s0 u L [("count", .int n tn), ("row", .ref ar), ("least", .int ls tl), ("words", .bytes (Bt (ws ++ ws.reverse)) tw)] [c0, c1, x2, x3, x4] → u.heap.IsTuple T #[.bytes (Bt wx) tt, .ref a] → Ls u.heap a wv → 135 ≤ a → Ints wv (wx.map fun (k : Nat) => (k : Int)) → wx.length = n → (∀ k ∈ wx, 1 ≤ k ∧ k ≤ 8) → Good wx ls →
      ∀ (p1 p2 pt : Pos) (kt : Nat) (Q : Flow → Shared → Prop), (∀ y2 y3 y4 u', Lw w s0 u' L [("count", .int n tn), ("row", .ref ar), ("least", .int ls tl), ("words", .bytes (Bt (ws ++ ws.reverse)) tw)] [c0, c1, y2, y3, y4] → Kw u u' → Q .next u') →
      wpN w A (PySem.assign (.Tuple [.Name "octets" p1, .Name "weights" p2] kt pt) (eLA L) (.ref T)) (fun _ s2 => wpD w A (execs laB (eLA L)) Q s2) u := by
    intro T a tt wv wx u x2 x3 x4 elts b hT la ha ia hnx bx gx p1 p2 pt kt Q hq
    refine b.asg2 (i := 2) r.h hT [("count", .int n tn), ("row", .ref ar), ("least", .int ls tl), ("words", .bytes (Bt (ws ++ ws.reverse)) tw), ("octets", .bytes (Bt wx) tt)] (fmLA L) rfl (by rfl) (by rfl) (by rfl) (by rfl) rfl fun u1 b1 K1 => ?_
    refine la_body r tb0 b1 (K1.ls la ha) ha ia h4 hn6 hnx bx gx fun c3' c4' u2 b2 K2 => ?_
    exact hq _ _ _ u2 b2 (K1.trans K2)
  refine D.forT (WalksU.listOfTuples r.h (T1 + 1 + 1) (T1 + 1) (neN (by (first | lia | omega))) [.ref T0, .ref T1].toArray (fun j => if j = 0 then T0 else T1) (fun j => if j = 0 then #[.bytes (Bt ws) t1, .ref ar] else #[.bytes (Bt ws.reverse) t3, .ref ar2]) ?_ ?_)
    (fun i u => ∃ x2 x3 x4, Lw w s0 u L [("count", .int n tn), ("row", .ref ar), ("least", .int ls tl), ("words", .bytes (Bt (ws ++ ws.reverse)) tw)] [c0, c1, x2, x3, x4] ∧ Ls u.heap ar us ∧ Ls u.heap ar2 us.reverse) ?_ ?_ ?_ ?_ ?_
  · intro j hj
    have : j < 2 := hj
    match j, this with
    | 0, _ => rfl
    | 1, _ => rfl
  · intro j hj
    have : j < 2 := hj
    match j, this with
    | 0, _ => exact neN (by show T0 ≠ _; (first | lia | omega))
    | 1, _ => exact neN (by show T1 ≠ _; (first | lia | omega))
  · rintro i u h' tk ⟨x2, x3, x4, b, la, lb⟩ hk
    exact ⟨x2, x3, x4, b.upd hk (al1 (by (first | lia | omega))) (by simp), la.keeps fun o e => hk _ _ (ni1 (by (first | lia | omega))) e, lb.keeps fun o e => hk _ _ (ni1 (by (first | lia | omega))) e⟩
  · rintro i T vals u hi2 rfl hSt hT ⟨x2, x3, x4, b, la, lb⟩
    obtain ⟨⟨oI, eI, _, dI⟩, ⟨oa, ea, _, na, da⟩, tup⟩ := hSt
    have h2 : i < 2 := hi2
    have keep : ∀ {u' : Shared}, Kw u u' → ∀ b ∈ ((T1 + 1 + 1 : Nat) :: (T1 + 1 : Nat) :: (List.range [Value.ref T0, Value.ref T1].toArray.size).map (fun j => if j = 0 then T0 else T1) : List Addr), ∀ o, u.heap.get? b = some o → u'.heap.get? b = some o := by
      intro u' K b hb o e
      rcases List.mem_cons.mp hb with rfl | hb
      · rw [e] at eI; cases eI
        exact K _ _ e (by show @LE.le Nat _ _ _; (first | lia | omega)) (.inr ⟨_, dI⟩)
      rcases List.mem_cons.mp hb with rfl | hb
      · rw [e] at ea; cases ea
        exact K _ _ e (by show @LE.le Nat _ _ _; (first | lia | omega)) (.inl ⟨_, _, da⟩)
      obtain ⟨j, hj, rfl⟩ := List.mem_map.mp hb
      have hj : j < 2 := List.mem_range.mp hj
      obtain ⟨ot, et, _, nt, dt⟩ := tup j hj
      rw [e] at et; cases et
      refine K _ _ e ?_ (.inl ⟨_, _, dt⟩)
      match j, hj with
      | 0, _ => show @LE.le Nat _ 135 T0; (first | lia | omega)
      | 1, _ => show @LE.le Nat _ 135 T1; (first | lia | omega)
    rcases (by (first | lia | omega) : i = 0 ∨ i = 1) with rfl | rfl
    · have hT : u.heap.IsTuple T #[.bytes (Bt ws) t1, .ref ar] := hT
      refine body T ar t1 us ws u x2 x3 x4 [] b hT la har hi hn bw hG _ _ _ _ _ fun y2 y3 y4 u' b' K => ?_
      exact ⟨rfl, ⟨y2, y3, y4, b', K.ls la har, K.ls lb har2'⟩, keep K⟩
    · have hT : u.heap.IsTuple T #[.bytes (Bt ws.reverse) t3, .ref ar2] := hT
      refine body T ar2 t3 us.reverse ws.reverse u x2 x3 x4 [] b hT lb har2' hulr (by simpa using hn) (fun k hk => bw k (List.mem_reverse.mp hk)) hG2 _ _ _ _ _ fun y2 y3 y4 u' b' K => ?_
      exact ⟨rfl, ⟨y2, y3, y4, b', K.ls la har, K.ls lb har2'⟩, keep K⟩
  · refine ⟨I7, L7.isList, fun k hk => ?_⟩
    have : k < 2 := hk
    match k, this with
    | 0, _ => exact T7
    | 1, _ => exact U7
  · exact ⟨c2, c3, c4, B7, l7, l7'⟩
  · rintro u ⟨x2, x3, x4, b, _, _⟩
    refine D.execs_cons (D.of (wpAny_Return_some (wpAny_Constant_bool ?_)))
    exact hQ u b.c b.g
end
end Mine
end

/-! Lr -/
section
open PySem PySem.W PySem.W.X PyProof.Rows PySem.Calls
open Sem (wp)
set_option Elab.async false
set_option maxRecDepth 100000
set_option maxHeartbeats 1000000
namespace Mine
/-- the plain law -/
def Plain : Prop := ∀ ws : List Nat, 4 ≤ ws.length → ws.length ≤ 6 → (∀ k ∈ ws, 1 ≤ k ∧ k ≤ 8) → Good ws (lst ws.length (ws.map fun (k : Nat) => (k : Int))) ∧ Good ws.reverse (lst ws.length (ws.map fun (k : Nat) => (k : Int)))
section
variable {w : World} {A : Around} {s : Shared}
theorem law_call {sa : Nat} {vs : List Value} {ns : List Int} {Q : Value → Shared → Prop} (plain : Plain) (c : Cx w s.heap) (tb : Tbs s.heap) (r : Rm 30 A) (hl : s.heap.IsList sa vs.toArray) (hsa : sa ≠ 70 ∧ sa ≠ 77) (hi : Ints vs ns) (hz : vs.length ≤ 63)
    (hQ : ∀ s', Go [] s s' → Q (.bool true) s') : wpD w A (PySem.call (.ref 134) [.ref sa]) Q s := by
  refine D.enterC [("script", .ref sa)] [] c (kLA _) (st := topS 10) rfl (by kernel_rfl) r.room (by kernel_rfl) rfl (fun x hx => ?_) (by kernel_rfl) (fun _ => rfl) fun L s0 hLd hL N0 C0 G0 c0 => ?_
  · simp only [List.mem_cons, List.not_mem_nil, or_false] at hx
    subst hx
    exact .inr ⟨by kernel_rfl, by rfl⟩
  have r1 := (r.mono (j := 29 + 1) (by (first | lia | omega))).deeper (env := eLA L)
  have B0 : Lw w s s0 L [] [some (.ref sa), none, none, none, none] := by
    refine ⟨N0, G0, c, Nat.le_of_eq hLd, fun i v e => ?_⟩
    match i, e with
    | 0, e => cases e; exact C0 "script" (L + 1 + 0) (by rfl)
    | 1, e => cases e; exact C0 "cells" (L + 1 + 1) (by rfl)
    | 2, e => cases e; exact C0 "weights" (L + 1 + 2) (by rfl)
    | 3, e => cases e; exact C0 "joined" (L + 1 + 3) (by rfl)
    | 4, e => cases e; exact C0 "heights" (L + 1 + 4) (by rfl)
    | n + 5, e => cases e
  have hl0 : s0.heap.IsList sa vs.toArray := hl.at fun o e => G0.keep sa o (by simp) hsa.1 hsa.2 e
  refine la_cells (r1.mono (by (first | lia | omega))) B0 hl0 hsa hi hz fun cc us ms s1 B1 l1 hcc i1 hm7 hm0 => ?_
  refine la_row (r1.mono (by (first | lia | omega))) B1 l1 hcc i1 hm7 hm0 fun n tn ar us2 ws s2 B2 l2 har i2 hn h4 h6 hb => ?_
  refine la_words (r1.mono (by (first | lia | omega))) B2 l2 har i2 hn h4 h6 hb fun tl tw s3 B3 l3 => ?_
  obtain ⟨p1, p2⟩ := plain ws (by (first | lia | omega)) (by (first | lia | omega)) hb
  rw [hn] at p1 p2
  refine la_loop (r1.mono (by (first | lia | omega))) tb B3 l3 har i2 h4 h6 hn hb p1 p2 fun s4 c4 G4 => ?_
  exact hQ s4 G4
end
end Mine
end

/-! Lx -/
section
open PySem PySem.W PySem.W.X PyProof.Rows PySem.Calls
open Sem (wp)
set_option Elab.async false
set_option maxRecDepth 100000
set_option maxHeartbeats 1000000
namespace Mine
theorem mLA (P : Params) : nsIn (hd.heap_39 P) 3 "law" = some (some (.ref 134)) := by kernel_rfl
theorem mBI (P : Params) : nsIn (hd.heap_39 P) 3 "__builtins__" = some (some (.ref 4)) := by kernel_rfl
theorem KF_sub {P : Params} {h : Heap} (x : (hd.heap_39 P).In h) : (KF P).In h := fun a o e => x a o (KF_of e).1
theorem pre63 {R : WRecords} {xs : List WData} (h : WTm.holds R (.and (.not (.lt (.lit (.int 63)) (.len (.arg 0)))) (.lit (.bool true))) { args := [.list xs] } = true) : xs.length ≤ 63 := by
  unfold WTm.holds at h
  simp only [WTm.value, List.getElem?_cons_zero] at h
  simp [less_int] at h
  by_cases q : (63 : Int) < (xs.length : Int)
  · simp [q] at h
  · (first | lia | omega)
theorem post_true {R : WRecords} {args : List WData} : (WTm.eq .res (.lit (.bool true))).value R { args := args, res := some (.bool true), after := args } = some (.bool true) := by
  simp [WTm.value, same_self]
def tabIn (K : Frag) (c P : Nat) : Bool := match K.lookup c with
  | some ⟨.type n, _, .fields vs, _⟩ => n == "code" && (match vs[11]? with
    | some (Value.ref q) => Nat.beq q P
    | _ => false)
  | _ => false
theorem tab_of {K : Frag} {h : Heap} {c P : Nat} (x : K.In h) (e : tabIn K c P = true) : isCodeTable h P := by
  unfold tabIn at e
  split at e
  · rename_i n d vs sl hk
    rw [Bool.and_eq_true] at e
    obtain ⟨e1, e2⟩ := e
    split at e2
    · rename_i q hq
      rw [beq_iff_eq] at e1
      have := Nat.eq_of_beq_eq_true e2
      subst this e1
      exact ⟨c, _, vs, x _ _ hk, rfl, rfl, hq⟩
    · cases e2
  · cases e
theorem ct70 (P : Params) : tabIn (hd.heap_39 P) 74 70 = true := by kernel_rfl
theorem ct77 (P : Params) : tabIn (hd.heap_39 P) 81 77 = true := by kernel_rfl
theorem ints_reads {R : WRecords} {cl : Str → Option Addr} {h : Heap} : ∀ {vs : List Value} {xs : List WData} {as : List Addr}, ReadsAllW R cl h vs xs as → WShape.hasItems R xs .int = true → ∃ ns, Ints vs ns
  | _, _, _, .nil, _ => ⟨[], rfl⟩
  | _, _, _, .cons r1 r2, x => by
    simp only [WShape.hasItems, Bool.and_eq_true] at x
    obtain ⟨i, rfl⟩ := hasW_int x.1
    obtain ⟨t, rfl, _⟩ := readsW_int_inv r1
    obtain ⟨ns, h⟩ := ints_reads r2 x.2
    refine ⟨i :: ns, ?_⟩
    unfold Ints at *
    rw [List.map_cons, List.map_cons, h]
    rfl
theorem law_ends (plain : Plain) : PySem.Challenge.rw_pe0043_01.Holds := by
  refine hd fun w s₀ s₁ mg mb G Y hgens args vals as hpre hlay hrd => ?_
  obtain ⟨Y, e70, e77⟩ := Y
  have K := kIn_of Y
  have hmg : mg PySem.Challenge.rw_pe0043_01.row.toRowW.name = some (.ref 134) := mg_of K G.T.g (mLA w.params)
  refine ⟨.ref 134, hmg, ?_⟩
  obtain ⟨p1, p2⟩ := pre_splitW hpre
  obtain ⟨d, r, rfl, q1, q2⟩ := hasAllW_cons p1
  obtain rfl := hasAllW_nil q2
  obtain ⟨xs, rfl, q3⟩ := hasW_list q1
  obtain ⟨v, vs, as1, as2, rfl, rfl, r1, r2⟩ := readsAllW_cons_inv hrd
  obtain ⟨rfl, rfl⟩ := readsAllW_nil_inv r2
  obtain ⟨sa, its, as', rfl, hl, r3, rfl⟩ := readsW_list_inv r1
  obtain ⟨ns, hi⟩ := ints_reads r3 q3
  have hz : its.toList.length ≤ 63 := by
    rw [r3.length]
    exact pre63 p2
  have hsa : sa ≠ 70 ∧ sa ≠ 77 := by
    obtain ⟨o, eo, hc, _⟩ := hl
    refine ⟨?_, ?_⟩
    · rintro rfl
      rw [e70] at eo; cases eo; cases hc
    · rintro rfl
      rw [e77] at eo; cases eo; cases hc
  have hm4 : ∃ o, s₁.heap.get? 4 = some o ∧ o.cls = .type "module" ∧ o.dict = some builtinsNs ∧ o.data = .plain := by
    obtain ⟨bm, ob, h1, _, h3, h4, h5, h6⟩ := G.T.bmain
    have e := mg_of K G.T.g (mBI w.params)
    rw [h1] at e; cases e
    exact ⟨ob, h3, h4, h5, h6⟩
  have hl' : s₁.heap.IsList sa its.toList.toArray := by simpa using hl
  refine law_call (A := callerA) (vs := its.toList) (ns := ns) plain ⟨KF_sub K, ⟨mb, G.T.b, G.T.builtins⟩, hm4⟩ ⟨⟨#[], e70, trivial⟩, ⟨#[], e77, trivial⟩⟩ ⟨rfl, by decide, by decide⟩ hl' hsa hi hz fun s' G' => ?_
  refine ⟨.inl ⟨.bool true, .bool true, [], rfl, fun _ => rfl, .bool true, postW_of (by simp [WShape.has, WShape.arms, OpenLaw.row]) post_true rfl, fun _ => ⟨List.nodup_nil, fun a ha => nomatch ha⟩⟩, ?_, G'.os, G'.gens (hgens ▸ AllBare.empty)⟩
  have T := G'.tab ⟨⟨#[], e70, trivial⟩, ⟨#[], e77, trivial⟩⟩
  obtain ⟨⟨p0, x70, _⟩, ⟨p7, x77, _⟩⟩ := T
  refine ⟨fun b o e => ?_, fun b o e => ?_⟩
  · by_cases h70 : b = 70
    · subst h70
      rw [e70] at e; cases e
      exact .inr (.inl ⟨tab_of K (ct70 _), rfl, #[], p0, rfl, by rw [x70]; simp [tableObj]⟩)
    · by_cases h77 : b = 77
      · subst h77
        rw [e77] at e; cases e
        exact .inr (.inl ⟨tab_of K (ct77 _), rfl, #[], p7, rfl, by rw [x77]; simp [tableObj]⟩)
      · exact .inl (G'.keep b o (by simp) h70 h77 e)
  · by_cases h70 : b = 70
    · subst h70
      exact ⟨_, x70⟩
    · by_cases h77 : b = 77
      · subst h77
        exact ⟨_, x77⟩
      · exact ⟨o, G'.keep b o (by simp) h70 h77 e⟩
end Mine
end

/-! Pa -/
section
set_option Elab.async false
set_option maxRecDepth 100000
set_option maxHeartbeats 1000000
/-! forms over (1, w) with natural coefficients, and combinations of inequalities -/
namespace Mine
def ev : List Nat → List Nat → Nat
  | x :: a, y :: b => x * y + ev a b
  | _, _ => 0
def vadd : List Nat → List Nat → List Nat
  | [], b => b
  | x :: a, [] => x :: a
  | x :: a, y :: b => (x + y) :: vadd a b
def vmul (k : Nat) : List Nat → List Nat
  | [] => []
  | x :: a => (k * x) :: vmul k a
def beqV : List Nat → List Nat → Bool
  | [], [] => true
  | x :: a, y :: b => Nat.beq x y && beqV a b
  | _, _ => false
theorem beqV_eq : ∀ {a b : List Nat}, beqV a b = true → a = b
  | [], [], _ => rfl
  | x :: a, y :: b, h => by
    simp only [beqV, Bool.and_eq_true] at h
    rw [Nat.eq_of_beq_eq_true h.1, beqV_eq h.2]
theorem ev_nil (v : List Nat) : ev [] v = 0 := by unfold ev; rfl
theorem ev_nil' (a : List Nat) : ev a [] = 0 := by cases a <;> rfl
theorem ev_vadd : ∀ (a b v : List Nat), ev (vadd a b) v = ev a v + ev b v
  | [], b, v => by simp [vadd, ev_nil]
  | x :: a, [], v => by simp [vadd, ev_nil]
  | x :: a, y :: b, [] => by simp [ev_nil']
  | x :: a, y :: b, z :: v => by
    simp only [vadd, ev, ev_vadd a b v, Nat.add_mul]
    (first | lia | omega)
theorem ev_vmul (k : Nat) : ∀ (a v : List Nat), ev (vmul k a) v = k * ev a v
  | [], v => by simp [vmul, ev_nil]
  | x :: a, [] => by simp [ev_nil']
  | x :: a, z :: v => by
    simp only [vmul, ev, ev_vmul k a v, Nat.mul_add, Nat.mul_assoc]
theorem vadd_getD : ∀ (a b : List Nat) (k : Nat), (vadd a b).getD k 0 = a.getD k 0 + b.getD k 0
  | [], b, k => by simp [vadd]
  | x :: a, [], k => by simp [vadd]
  | x :: a, y :: b, 0 => by simp [vadd]
  | x :: a, y :: b, k + 1 => by
    have := vadd_getD a b k
    simpa [vadd] using this
/-- an inequality: the first form is at least the second -/
def Ok (v : List Nat) (c : List Nat × List Nat) : Prop := ev c.2 v ≤ ev c.1 v
def B : Nat := 4096
/-- the sum of inequalities, by the digits of a number -/
def comb : List (List Nat × List Nat) → Nat → List Nat × List Nat
  | [], _ => ([], [])
  | c :: cs, n => bif Nat.beq (n % 4096) 0 then comb cs (n / 4096) else
      match comb cs (n / 4096) with
      | (p, q) => (vadd (vmul (n % 4096) c.1) p, vadd (vmul (n % 4096) c.2) q)
theorem comb_ok {v : List Nat} : ∀ (cs : List (List Nat × List Nat)) (n : Nat), (∀ c ∈ cs, Ok v c) → Ok v (comb cs n)
  | [], n, _ => by simp [comb, Ok]
  | c :: cs, n, h => by
    have ih := comb_ok cs (n / 4096) fun d hd => h d (List.mem_cons_of_mem _ hd)
    have hc := h c List.mem_cons_self
    unfold comb
    cases Nat.beq (n % 4096) 0 with
    | true => exact ih
    | false =>
      simp only [cond_false]
      revert ih
      generalize comb cs (n / 4096) = e
      obtain ⟨p, q⟩ := e
      intro ih
      unfold Ok at *
      simp only [ev_vadd, ev_vmul] at *
      have := Nat.mul_le_mul_left (n % 4096) hc
      (first | lia | omega)
/-- the first form is less than the second, wherever -/
def ltV : List Nat → List Nat → Bool
  | p :: a, q :: b => Nat.blt p q && beqV a b
  | _, _ => false
def leV : List Nat → List Nat → Bool
  | p :: a, q :: b => Nat.ble p q && beqV a b
  | _, _ => false
theorem ltV_lt {a b w : List Nat} (h : ltV a b = true) : ev a (1 :: w) < ev b (1 :: w) := by
  match a, b, h with
  | p :: a, q :: b, h =>
    simp only [ltV, Bool.and_eq_true] at h
    obtain ⟨h1, h2⟩ := h
    rw [beqV_eq h2]
    have : p < q := Nat.le_of_ble_eq_true h1
    simp only [ev]
    (first | lia | omega)
theorem leV_le {a b w : List Nat} (h : leV a b = true) : ev a (1 :: w) ≤ ev b (1 :: w) := by
  match a, b, h with
  | p :: a, q :: b, h =>
    simp only [leV, Bool.and_eq_true] at h
    obtain ⟨h1, h2⟩ := h
    rw [beqV_eq h2]
    have := Nat.le_of_ble_eq_true h1
    simp only [ev]
    (first | lia | omega)
/-- these inequalities cannot all hold -/
def noV (cs : List (List Nat × List Nat)) (n : Nat) : Bool := match comb cs n with | (p, q) => ltV p q
theorem noV_false {cs : List (List Nat × List Nat)} {n : Nat} {w : List Nat} (h : noV cs n = true) (hc : ∀ c ∈ cs, Ok (1 :: w) c) : False := by
  have := comb_ok cs n hc
  revert this h
  unfold noV
  generalize comb cs n = e
  obtain ⟨p, q⟩ := e
  intro h ok
  have := ltV_lt (w := w) h
  unfold Ok at ok
  simp only at ok this
  (first | lia | omega)
theorem getD_map {α β : Type} (f : α → β) (l : List α) (i : Nat) (d : α) (e : β) (h : f d = e) : (l.map f).getD i e = f (l.getD i d) := by
  rw [List.getD_eq_getElem?_getD, List.getD_eq_getElem?_getD, List.getElem?_map]
  cases l[i]? with
  | none => exact h.symm
  | some x => rfl
/-- what a step's two numbers say of the row -/
def cons (R : List (List Nat)) (a lo : Nat) : List (List Nat × List Nat) :=
  ((List.range a).map fun i => (R.getD i [], vadd (R.getD (i + 2) []) [1]))
  ++ (bif Nat.blt (a + 2) R.length then [(R.getD (a + 2) [], R.getD a [])] else [])
  ++ ((List.range (a - lo)).map fun j => (vadd (R.getD a []) (R.getD (a + 1) []), vadd (R.getD (lo + j) []) [1]))
  ++ (bif Nat.blt 0 lo then [(R.getD (lo - 1) [], vadd (R.getD a []) (R.getD (a + 1) []))] else [])
def sstep (R : List (List Nat)) (a lo : Nat) : List (List Nat) := R.take lo ++ [vadd (R.getD a []) (R.getD (a + 1) [])] ++ (R.take a).drop lo ++ R.drop (a + 2)
theorem atF_gt : ∀ (r : List Nat) (i : Nat), i < atF r → r.getD (i + 2) 0 + 1 ≤ r.getD i 0
  | [], i, h => by simp [atF] at h
  | [_], i, h => by simp [atF] at h
  | [_, _], i, h => by simp [atF] at h
  | a :: b :: c :: t, i, h => by
    unfold atF at h
    split at h
    · rename_i q
      cases i with
      | zero => simp; (first | lia | omega)
      | succ i =>
        have := atF_gt (b :: c :: t) i (by (first | lia | omega))
        simpa using this
    · (first | lia | omega)
theorem atF_le : ∀ (r : List Nat), atF r + 2 < r.length → r.getD (atF r) 0 ≤ r.getD (atF r + 2) 0
  | [], h => by simp [atF] at h
  | [_], h => by simp [atF] at h
  | [_, _], h => by simp [atF] at h
  | a :: b :: c :: t, h => by
    unfold atF at h ⊢
    split at h
    · rename_i q
      rw [if_pos q]
      have := atF_le (b :: c :: t) (by simp only [List.length_cons] at *; (first | lia | omega))
      simpa using this
    · rename_i q
      rw [if_neg q]
      simp; (first | lia | omega)
theorem lowF_lt (r : List Nat) (t : Nat) : ∀ (k j : Nat), lowF r t k ≤ j → j < k → r.getD j 0 + 1 ≤ t
  | 0, j, _, h => by (first | lia | omega)
  | k + 1, j, h1, h2 => by
    unfold lowF at h1
    split at h1
    · rename_i q
      by_cases e : j = k
      · subst e; (first | lia | omega)
      · exact lowF_lt r t k j h1 (by (first | lia | omega))
    · (first | lia | omega)
theorem lowF_ge (r : List Nat) (t : Nat) : ∀ (k : Nat), 0 < lowF r t k → t ≤ r.getD (lowF r t k - 1) 0
  | 0, h => by simp [lowF] at h
  | k + 1, h => by
    unfold lowF at h ⊢
    split at h
    · rename_i q
      rw [if_pos q]
      exact lowF_ge r t k h
    · rename_i q
      rw [if_neg q, Nat.add_sub_cancel]
      (first | lia | omega)
theorem cons_ok {R : List (List Nat)} {w r : List Nat} {a lo : Nat} (hr : r = R.map fun x => ev x (1 :: w)) (ha : a = atF r) (hlo : lo = lowF r (r.getD a 0 + r.getD (a + 1) 0) a) : ∀ c ∈ cons R a lo, Ok (1 :: w) c := by
  have g : ∀ i, r.getD i 0 = ev (R.getD i []) (1 :: w) := fun i => by rw [hr]; exact getD_map _ _ _ _ _ (ev_nil _)
  have e1 : ev [1] (1 :: w) = 1 := by simp [ev]
  have hl : r.length = R.length := by rw [hr]; simp
  intro c hc
  unfold cons at hc
  rcases List.mem_append.mp hc with hc | hc
  · rcases List.mem_append.mp hc with hc | hc
    · rcases List.mem_append.mp hc with hc | hc
      · obtain ⟨i, hi, rfl⟩ := List.mem_map.mp hc
        have := atF_gt r i (by rw [← ha]; exact List.mem_range.mp hi)
        unfold Ok
        simp only [ev_vadd, e1]
        rw [← g, ← g]
        (first | lia | omega)
      · cases q : Nat.blt (a + 2) R.length with
        | false => rw [q] at hc; simp at hc
        | true =>
          rw [q] at hc
          simp only [cond_true, List.mem_cons, List.not_mem_nil, or_false] at hc
          subst hc
          have : a + 2 < R.length := Nat.le_of_ble_eq_true q
          have := atF_le r (by rw [← ha, hl]; exact this)
          unfold Ok
          simp only
          rw [← g, ← g, ha]
          exact this
    · obtain ⟨j, hj, rfl⟩ := List.mem_map.mp hc
      have hj := List.mem_range.mp hj
      have := lowF_lt r (r.getD a 0 + r.getD (a + 1) 0) a (lo + j) (by (first | lia | omega)) (by (first | lia | omega))
      unfold Ok
      simp only [ev_vadd, e1]
      rw [← g, ← g, ← g]
      (first | lia | omega)
  · cases q : Nat.blt 0 lo with
    | false => rw [q] at hc; simp at hc
    | true =>
      rw [q] at hc
      simp only [cond_true, List.mem_cons, List.not_mem_nil, or_false] at hc
      subst hc
      have hq : 0 < lo := Nat.le_of_ble_eq_true q
      have := lowF_ge r (r.getD a 0 + r.getD (a + 1) 0) a (by (first | lia | omega))
      rw [← hlo] at this
      unfold Ok
      simp only [ev_vadd]
      rw [← g, ← g, ← g]
      exact this
end Mine
end

/-! Pb -/
section
set_option Elab.async false
set_option maxRecDepth 100000
set_option maxHeartbeats 1000000
/-! the least cost as that of a tree; one step of the joining -/
namespace Mine
/-- the heights of the leaves of all trees of m leaves -/
def trees : Nat → Nat → List (List Nat)
  | 0, _ => []
  | f + 1, m => bif Nat.ble m 1 then [List.replicate m 0] else
      (List.range (m - 1)).flatMap fun i => (trees f (i + 1)).flatMap fun a => (trees f (m - (i + 1))).map fun b => (a ++ b).map (· + 1)
theorem trees_len : ∀ (f m : Nat) (T : List Nat), T ∈ trees f m → T.length = m
  | 0, _, _, h => by simp [trees] at h
  | f + 1, m, T, h => by
    unfold trees at h
    cases q : Nat.ble m 1 with
    | true =>
      rw [q] at h
      simp only [cond_true, List.mem_cons, List.not_mem_nil, or_false] at h
      subst h; simp
    | false =>
      rw [q] at h
      simp only [cond_false, List.mem_flatMap, List.mem_map, List.mem_range] at h
      obtain ⟨i, hi, a, ha, b, hb, rfl⟩ := h
      have h1 := trees_len f _ a ha
      have h2 := trees_len f _ b hb
      simp only [List.length_map, List.length_append]
      (first | lia | omega)
theorem ev_split : ∀ (a b ws : List Nat), a.length + b.length = ws.length → ev ((a ++ b).map (· + 1)) ws = ws.sum + ev a (ws.take a.length) + ev b (ws.drop a.length)
  | [], [], [], _ => by simp [ev]
  | [], [], _ :: _, h => by simp at h
  | [], x :: b, [], h => by simp at h
  | [], x :: b, y :: ws, h => by
    have ih := ev_split [] b ws (by simpa using h)
    simp only [List.nil_append, List.map_cons, List.length_nil, List.take_zero, List.drop_zero, ev_nil, List.sum_cons, ev, Nat.add_mul, Nat.add_zero] at *
    (first | lia | omega)
  | x :: a, b, [], h => by simp at h
  | x :: a, b, y :: ws, h => by
    have ih := ev_split a b ws (by simp only [List.length_cons] at h; (first | lia | omega))
    simp only [List.cons_append, List.map_cons, List.length_cons, List.take_succ_cons, List.drop_succ_cons, List.sum_cons, ev, Nat.add_mul] at *
    (first | lia | omega)
theorem minL_le : ∀ {l : List Int} {y : Int}, y ∈ l → minL l ≤ y
  | [], _, h => by cases h
  | x :: xs, y, h => by
    obtain ⟨_, h2, h3⟩ := foldl_min xs x
    rcases List.mem_cons.mp h with rfl | h
    · exact h2
    · exact h3 y h
theorem minL_mem : ∀ {l : List Int}, l ≠ [] → minL l ∈ l
  | [], h => absurd rfl h
  | x :: xs, _ => by
    obtain ⟨h1, _, _⟩ := foldl_min xs x
    show xs.foldl min x ∈ _
    rcases h1 with h1 | h1
    · rw [h1]; exact List.mem_cons_self
    · exact List.mem_cons_of_mem _ h1
abbrev toI (ws : List Nat) : List Int := ws.map fun (k : Nat) => (k : Int)
theorem lst_le : ∀ (f : Nat) (ws T : List Nat), T ∈ trees f ws.length → lst f (toI ws) ≤ (ev T ws : Nat)
  | 0, _, _, h => by simp [trees] at h
  | f + 1, ws, T, h => by
    unfold lst
    by_cases h1 : ws.length ≤ 1
    · rw [if_pos (by simpa using h1)]; (first | lia | omega)
    · rw [if_neg (by simpa using h1)]
      unfold trees at h
      have q : Nat.ble ws.length 1 = false := by
        cases q : Nat.ble ws.length 1 with
        | false => rfl
        | true => exact absurd (Nat.le_of_ble_eq_true q) h1
      rw [q] at h
      simp only [cond_false, List.mem_flatMap, List.mem_map, List.mem_range] at h
      obtain ⟨i, hi, a, ha, b, hb, rfl⟩ := h
      have la := trees_len f _ a ha
      have lb := trees_len f _ b hb
      have e1 : (ws.take (i + 1)).length = i + 1 := by simp; (first | lia | omega)
      have e2 : (ws.drop (i + 1)).length = ws.length - (i + 1) := by simp
      have ih1 := lst_le f (ws.take (i + 1)) a (by rw [e1]; exact ha)
      have ih2 := lst_le f (ws.drop (i + 1)) b (by rw [e2]; exact hb)
      rw [ev_split a b ws (by (first | lia | omega)), la, sum_int]
      have hm : lst f ((toI ws).take (i + 1)) + lst f ((toI ws).drop (i + 1)) ∈ (List.range ((toI ws).length - 1)).map fun i => lst f ((toI ws).take (i + 1)) + lst f ((toI ws).drop (i + 1)) :=
        List.mem_map.mpr ⟨i, List.mem_range.mpr (by simpa using hi), rfl⟩
      have := minL_le hm
      have e3 : (toI ws).take (i + 1) = toI (ws.take (i + 1)) := by unfold toI; rw [List.map_take]
      have e4 : (toI ws).drop (i + 1) = toI (ws.drop (i + 1)) := by unfold toI; rw [List.map_drop]
      rw [e3, e4] at this
      (first | lia | omega)
theorem lst_ex : ∀ (f : Nat) (ws : List Nat), ws.length ≤ f → 1 ≤ ws.length → ∃ T, T ∈ trees f ws.length ∧ lst f (toI ws) = (ev T ws : Nat)
  | 0, _, h, h0 => by (first | lia | omega)
  | f + 1, ws, h, h0 => by
    by_cases h1 : ws.length ≤ 1
    · refine ⟨List.replicate ws.length 0, ?_, ?_⟩
      · unfold trees
        have : Nat.ble ws.length 1 = true := Nat.ble_eq_true_of_le h1
        rw [this]; simp
      · unfold lst
        rw [if_pos (by simpa using h1)]
        have : ws.length = 1 := by (first | lia | omega)
        rw [this]
        match ws, this with
        | [k], _ => simp [ev]
    · have q : Nat.ble ws.length 1 = false := by
        cases q : Nat.ble ws.length 1 with
        | false => rfl
        | true => exact absurd (Nat.le_of_ble_eq_true q) h1
      have hne : ((List.range ((toI ws).length - 1)).map fun i => lst f ((toI ws).take (i + 1)) + lst f ((toI ws).drop (i + 1))) ≠ [] := by
        intro e
        have := congrArg List.length e
        simp at this
        (first | lia | omega)
      have hm := minL_mem hne
      obtain ⟨i, hi, e⟩ := List.mem_map.mp hm
      have hi : i < ws.length - 1 := by simpa using hi
      have e1 : (ws.take (i + 1)).length = i + 1 := by simp; (first | lia | omega)
      have e2 : (ws.drop (i + 1)).length = ws.length - (i + 1) := by simp
      obtain ⟨a, ha, ea⟩ := lst_ex f (ws.take (i + 1)) (by (first | lia | omega)) (by (first | lia | omega))
      obtain ⟨b, hb, eb⟩ := lst_ex f (ws.drop (i + 1)) (by (first | lia | omega)) (by (first | lia | omega))
      rw [e1] at ha
      rw [e2] at hb
      have la := trees_len f _ a ha
      have lb := trees_len f _ b hb
      refine ⟨(a ++ b).map (· + 1), ?_, ?_⟩
      · unfold trees
        rw [q]
        simp only [cond_false, List.mem_flatMap, List.mem_map, List.mem_range]
        exact ⟨i, hi, a, ha, b, hb, rfl⟩
      · rw [ev_split a b ws (by (first | lia | omega)), la]
        unfold lst
        rw [if_neg (by simpa using h1), ← e, sum_int]
        have e3 : (toI ws).take (i + 1) = toI (ws.take (i + 1)) := by unfold toI; rw [List.map_take]
        have e4 : (toI ws).drop (i + 1) = toI (ws.drop (i + 1)) := by unfold toI; rw [List.map_drop]
        rw [e3, e4, ea, eb]
        push_cast
        (first | lia | omega)
theorem trees_same : ∀ n ≤ 6, ∀ m ≤ n, trees n m = trees 6 m ∨ m = 0 := by decide +kernel
theorem lst_same {n : Nat} {ws : List Nat} (h1 : 1 ≤ ws.length) (h2 : ws.length ≤ n) (h6 : n ≤ 6) : lst n (toI ws) = lst 6 (toI ws) := by
  have e : trees n ws.length = trees 6 ws.length := (trees_same n h6 ws.length h2).resolve_right (by (first | lia | omega))
  obtain ⟨T, hT, eT⟩ := lst_ex n ws h2 h1
  obtain ⟨U, hU, eU⟩ := lst_ex 6 ws (by (first | lia | omega)) h1
  have l1 := lst_le n ws U (by rw [e]; exact hU)
  have l2 := lst_le 6 ws T (by rw [← e]; exact hT)
  (first | lia | omega)
theorem trees_rev : ∀ m ≤ 6, ((trees 6 m).all fun T => (trees 6 m).any fun U => beqV U T.reverse) = true := by decide +kernel
theorem ev_snoc : ∀ (a b : List Nat) (x y : Nat), a.length = b.length → ev (a ++ [x]) (b ++ [y]) = ev a b + x * y
  | [], [], x, y, _ => by simp [ev]
  | u :: a, [], _, _, h => by simp at h
  | [], v :: b, _, _, h => by simp at h
  | u :: a, v :: b, x, y, h => by
    have := ev_snoc a b x y (by simpa using h)
    simp only [List.cons_append, ev, this]
    (first | lia | omega)
theorem ev_rev : ∀ (a b : List Nat), a.length = b.length → ev a.reverse b.reverse = ev a b
  | [], [], _ => rfl
  | u :: a, [], h => by simp at h
  | [], v :: b, h => by simp at h
  | u :: a, v :: b, h => by
    have h' : a.length = b.length := by simpa using h
    rw [List.reverse_cons, List.reverse_cons, ev_snoc _ _ _ _ (by simpa using h'), ev_rev a b h']
    simp only [ev]
    (first | lia | omega)
theorem lst_rev {ws : List Nat} (h1 : 1 ≤ ws.length) (h6 : ws.length ≤ 6) : lst 6 (toI ws.reverse) = lst 6 (toI ws) := by
  have key : ∀ us : List Nat, 1 ≤ us.length → us.length ≤ 6 → lst 6 (toI us.reverse) ≤ lst 6 (toI us) := by
    intro us g1 g6
    obtain ⟨T, hT, eT⟩ := lst_ex 6 us g6 g1
    have h := List.all_eq_true.mp (trees_rev us.length g6) T hT
    obtain ⟨U, hU, eU⟩ := List.any_eq_true.mp h
    have eU := beqV_eq eU
    subst eU
    have := lst_le 6 us.reverse T.reverse (by rw [List.length_reverse]; exact hU)
    rw [ev_rev _ _ (trees_len _ _ _ hT)] at this
    (first | lia | omega)
  have k1 := key ws h1 h6
  have k2 := key ws.reverse (by simpa using h1) (by simpa using h6)
  rw [List.reverse_reverse] at k2
  (first | lia | omega)
end Mine
end

/-! Pc -/
section
set_option Elab.async false
set_option maxRecDepth 100000
set_option maxHeartbeats 1000000
/-! one step: the least cost is at least the total and the least cost behind the step -/
namespace Mine
/-- the weights themselves as forms -/
def base (m : Nat) : List (List Nat) := (List.range m).map fun i => 0 :: (List.range m).map fun j => if j = i then 1 else 0
/-- the weights are 1 or more -/
def posV (m : Nat) : List (List Nat × List Nat) := (base m).map fun e => (e, [1] ++ List.replicate m 0)
theorem base_ev : ∀ (r : List Nat), r.length ≤ 6 → (base r.length).map (fun x => ev x (1 :: r)) = r
  | [], _ => rfl
  | [a], _ => by simp [base, List.range_succ, ev]
  | [a, b], _ => by simp [base, List.range_succ, ev]
  | [a, b, c], _ => by simp [base, List.range_succ, ev]
  | [a, b, c, d], _ => by simp [base, List.range_succ, ev]
  | [a, b, c, d, e], _ => by simp [base, List.range_succ, ev]
  | [a, b, c, d, e, f], _ => by simp [base, List.range_succ, ev]
  | _ :: _ :: _ :: _ :: _ :: _ :: _ :: _, h => by simp only [List.length_cons] at h; (first | lia | omega)
theorem ev_zeros : ∀ (m : Nat) (v : List Nat), ev (List.replicate m 0) v = 0
  | 0, v => by simp [ev_nil]
  | m + 1, [] => by simp [ev_nil']
  | m + 1, y :: v => by simp [List.replicate_succ, ev, ev_zeros m v]
theorem posV_ok {r : List Nat} (h6 : r.length ≤ 6) (hp : ∀ k ∈ r, 1 ≤ k) : ∀ c ∈ posV r.length, Ok (1 :: r) c := by
  intro c hc
  obtain ⟨e, he, rfl⟩ := List.mem_map.mp hc
  unfold Ok
  have : ev e (1 :: r) ∈ r := by
    have h : ev e (1 :: r) ∈ (base r.length).map (fun x => ev x (1 :: r)) := List.mem_map.mpr ⟨e, he, rfl⟩
    rwa [base_ev r h6] at h
  have := hp _ this
  show ev (1 :: List.replicate r.length 0) (1 :: r) ≤ _
  simp only [ev, ev_zeros]
  (first | lia | omega)
/-- the form of a tree's cost over forms -/
def lin : List Nat → List (List Nat) → List Nat
  | x :: a, f :: R => vadd (vmul x f) (lin a R)
  | _, _ => []
theorem lin_ev (v : List Nat) : ∀ (T : List Nat) (R : List (List Nat)), ev (lin T R) v = ev T (R.map fun x => ev x v)
  | [], R => by simp [lin, ev_nil]
  | x :: a, [] => by simp [lin, ev_nil, ev_nil']
  | x :: a, f :: R => by
    simp only [lin, ev_vadd, ev_vmul, List.map_cons, ev, lin_ev v a R]
/-- a combination of forms by the digits of a number, and the sum of the digits -/
def combF : List (List Nat) → Nat → List Nat × Nat
  | [], _ => ([], 0)
  | f :: fs, n => bif Nat.beq (n % 4096) 0 then combF fs (n / 4096) else
      match combF fs (n / 4096) with
      | (p, q) => (vadd (vmul (n % 4096) f) p, n % 4096 + q)
theorem combF_ok {v : List Nat} {x : Int} : ∀ (fs : List (List Nat)) (n : Nat), (∀ f ∈ fs, x ≤ (ev f v : Nat)) → ((combF fs n).2 : Int) * x ≤ (ev (combF fs n).1 v : Nat)
  | [], n, _ => by simp [combF, ev_nil]
  | f :: fs, n, h => by
    have ih := combF_ok fs (n / 4096) fun d hd => h d (List.mem_cons_of_mem _ hd)
    have hf := h f List.mem_cons_self
    unfold combF
    cases Nat.beq (n % 4096) 0 with
    | true => exact ih
    | false =>
      simp only [cond_false]
      revert ih
      generalize combF fs (n / 4096) = e
      obtain ⟨p, q⟩ := e
      intro ih
      simp only [ev_vadd, ev_vmul] at *
      generalize n % 4096 = k
      have h1 := Int.mul_le_mul_of_nonneg_left hf (Int.natCast_nonneg k)
      push_cast
      rw [Int.add_mul]
      (first | lia | omega)
/-- one certificate: d, then the trees behind the step, then the inequalities -/
def one1 (C : List (List Nat × List Nat)) (F : List (List Nat)) (t T : List Nat) (d mu la : Nat) : Bool :=
  match combF F mu, comb C la with
  | (f, s), (p, q) => Nat.beq s d && Nat.blt 0 d && leV (vadd (vadd f (vmul d t)) p) (vadd (vmul d (0 :: T)) q)
theorem one1_ok {C : List (List Nat × List Nat)} {F : List (List Nat)} {t T w : List Nat} {d mu la : Nat} {x : Int} (h : one1 C F t T d mu la = true) (hC : ∀ c ∈ C, Ok (1 :: w) c) (hF : ∀ f ∈ F, x ≤ (ev f (1 :: w) : Nat)) :
    x + (ev t (1 :: w) : Nat) ≤ (ev T w : Nat) := by
  have h1 := combF_ok F mu hF
  have h2 := comb_ok C la hC
  unfold one1 at h
  revert h h1 h2
  generalize combF F mu = e1
  generalize comb C la = e2
  obtain ⟨f, s⟩ := e1
  obtain ⟨p, q⟩ := e2
  intro h h1 h2
  simp only [Bool.and_eq_true] at h
  obtain ⟨⟨a1, a2⟩, a3⟩ := h
  have a1 := Nat.eq_of_beq_eq_true a1
  have a2 : 0 < d := Nat.le_of_ble_eq_true a2
  have a3 := leV_le (w := w) a3
  unfold Ok at h2
  simp only [ev_vadd, ev_vmul] at *
  subst a1
  have e0 : ev (0 :: T) (1 :: w) = ev T w := by simp [ev]
  rw [e0] at a3
  have a4 : (s : Int) * (x + (ev t (1 :: w) : Nat)) ≤ (s : Int) * (ev T w : Nat) := by
    rw [Int.mul_add]
    have : (s : Int) * (ev t (1 :: w) : Nat) = ((s * ev t (1 :: w) : Nat) : Int) := by push_cast; rfl
    have e3 : (s : Int) * (ev T w : Nat) = ((s * ev T w : Nat) : Int) := by push_cast; rfl
    rw [this, e3]
    (first | lia | omega)
  exact Int.le_of_mul_le_mul_left a4 (by (first | lia | omega))
/-- all trees of m leaves, for one step -/
def oneL (C : List (List Nat × List Nat)) (F : List (List Nat)) (t : List Nat) : List (List Nat) → List (Nat × Nat × Nat) → Bool
  | [], _ => true
  | T :: Ts, (d, mu, la) :: cs => one1 C F t T d mu la && oneL C F t Ts cs
  | _ :: _, [] => false
theorem oneL_ok {C : List (List Nat × List Nat)} {F : List (List Nat)} {t w : List Nat} {x : Int} (hC : ∀ c ∈ C, Ok (1 :: w) c) (hF : ∀ f ∈ F, x ≤ (ev f (1 :: w) : Nat)) : ∀ (Ts : List (List Nat)) (cs : List (Nat × Nat × Nat)), oneL C F t Ts cs = true →
    ∀ T ∈ Ts, x + (ev t (1 :: w) : Nat) ≤ (ev T w : Nat)
  | [], _, _, T, hT => by cases hT
  | U :: Us, [], h, T, hT => by simp [oneL] at h
  | U :: Us, (d, mu, la) :: cs, h, T, hT => by
    simp only [oneL, Bool.and_eq_true] at h
    rcases List.mem_cons.mp hT with rfl | hT
    · exact one1_ok h.1 hC hF
    · exact oneL_ok hC hF Us cs h.2 T hT
def oneS (m a lo : Nat) (cs : List (Nat × Nat × Nat)) : Bool :=
  oneL (cons (base m) a lo ++ posV m) ((trees 6 (m - 1)).map fun U => lin U (sstep (base m) a lo)) (vadd ((base m).getD a []) ((base m).getD (a + 1) [])) (trees 6 m) cs
/-- a step of a row -/
def rtot (r : List Nat) : Nat := r.getD (atF r) 0 + r.getD (atF r + 1) 0
def rlow (r : List Nat) : Nat := lowF r (rtot r) (atF r)
def rstep (r : List Nat) : List Nat := r.take (rlow r) ++ [rtot r] ++ (r.take (atF r)).drop (rlow r) ++ r.drop (atF r + 2)
theorem sstep_ev {R : List (List Nat)} {r v : List Nat} (hr : r = R.map fun x => ev x v) : (sstep R (atF r) (rlow r)).map (fun x => ev x v) = rstep r := by
  have g : ∀ i, r.getD i 0 = ev (R.getD i []) v := fun i => by rw [hr]; exact getD_map _ _ _ _ _ (ev_nil _)
  unfold sstep rstep rtot
  rw [g, g, ← ev_vadd]
  generalize rlow r = lo
  generalize hat : atF r = a
  rw [hr]
  simp only [List.map_append, List.map_take, List.map_drop, List.map_cons, List.map_nil]
def OneStep (m : Nat) : Prop := ∀ r : List Nat, r.length = m → (∀ k ∈ r, 1 ≤ k) → lst 6 (toI (rstep r)) + (rtot r : Nat) ≤ lst 6 (toI r)
def pairsN (m : Nat) : List (Nat × Nat) := (List.range (m - 1)).flatMap fun a => (List.range (a + 1)).map fun lo => (a, lo)
theorem pairsN_mem {m a lo : Nat} (h1 : a + 1 < m) (h2 : lo ≤ a) : (a, lo) ∈ pairsN m := by
  unfold pairsN
  simp only [List.mem_flatMap, List.mem_map, List.mem_range]
  exact ⟨a, by (first | lia | omega), lo, by (first | lia | omega), rfl⟩
/-- for all of a list, one after the other -/
theorem fa {P : Nat × Nat → Prop} {p : Nat × Nat} {l : List (Nat × Nat)} (h : P p) (r : ∀ q ∈ l, P q) : ∀ q ∈ p :: l, P q := List.forall_mem_cons.mpr ⟨h, r⟩
theorem fz {P : Nat × Nat → Prop} : ∀ q ∈ ([] : List (Nat × Nat)), P q := fun _ h => nomatch h
def one2 (m : Nat) (p : Nat × Nat) : Prop := ∃ cs, oneS m p.1 p.2 cs = true
theorem one2_of {m a lo : Nat} {cs : List (Nat × Nat × Nat)} (h : oneS m a lo cs = true) : one2 m (a, lo) := ⟨cs, h⟩
theorem oneStep_of {m : Nat} (h2 : 2 ≤ m) (h6 : m ≤ 6) (h : ∀ q ∈ pairsN m, one2 m q) : OneStep m := by
  intro r hm hp
  have hat := atF_lt r (by (first | lia | omega))
  have hlo : rlow r ≤ atF r := lowF_le _ _ _
  obtain ⟨cs, hcs⟩ := h (atF r, rlow r) (pairsN_mem (by (first | lia | omega)) hlo)
  have hb : r = (base m).map fun x => ev x (1 :: r) := by rw [← hm]; exact (base_ev r (by (first | lia | omega))).symm
  have hC : ∀ c ∈ cons (base m) (atF r) (rlow r) ++ posV m, Ok (1 :: r) c := by
    intro c hc
    rcases List.mem_append.mp hc with hc | hc
    · exact cons_ok (r := r) hb rfl rfl c hc
    · rw [← hm] at hc
      exact posV_ok (by (first | lia | omega)) hp c hc
  have hl : (rstep r).length = m - 1 := by
    unfold rstep
    simp only [List.length_append, List.length_take, List.length_drop, List.length_cons, List.length_nil]
    (first | lia | omega)
  have hF : ∀ f ∈ (trees 6 (m - 1)).map (fun U => lin U (sstep (base m) (atF r) (rlow r))), lst 6 (toI (rstep r)) ≤ (ev f (1 :: r) : Nat) := by
    intro f hf
    obtain ⟨U, hU, rfl⟩ := List.mem_map.mp hf
    rw [lin_ev, sstep_ev hb]
    exact lst_le 6 _ U (by rw [hl]; exact hU)
  obtain ⟨T, hT, eT⟩ := lst_ex 6 r (by (first | lia | omega)) (by (first | lia | omega))
  have := oneL_ok hC hF (trees 6 m) cs hcs T (by rw [← hm]; exact hT)
  rw [eT]
  have et : ev (vadd ((base m).getD (atF r) []) ((base m).getD (atF r + 1) [])) (1 :: r) = rtot r := by
    have g : ∀ i, r.getD i 0 = ev ((base m).getD i []) (1 :: r) := fun i => by
      conv => lhs; rw [hb]
      exact getD_map _ _ _ _ _ (ev_nil _)
    rw [ev_vadd, ← g, ← g]
    rfl
  rw [et] at this
  exact this
end Mine
end

/-! Pd -/
section
set_option Elab.async false
set_option maxRecDepth 100000
set_option maxHeartbeats 1000000
/-! certificates of one step; this text is printed by wip/tools/print1.py -/
namespace Mine
theorem o_200 : oneS 2 0 0 [(1, 1, 0)] = true := by decide +kernel
theorem oneStep2 : OneStep 2 := oneStep_of (by decide) (by decide) (fa (one2_of o_200) fz)
theorem o_300 : oneS 3 0 0 [(1, 1, 1), (1, 1, 0)] = true := by decide +kernel
theorem o_310 : oneS 3 1 0 [(1, 1, 0), (1, 1, 1)] = true := by decide +kernel
theorem o_311 : oneS 3 1 1 [(1, 1, 0), (1, 1, 1)] = true := by decide +kernel
theorem oneStep3 : OneStep 3 := oneStep_of (by decide) (by decide) (fa (one2_of o_300) (fa (one2_of o_310) (fa (one2_of o_311) fz)))
theorem o_400 : oneS 4 0 0 [(1, 1, 281474976710657), (1, 1, 16777217), (1, 1, 0), (1, 4096, 1), (1, 4096, 0)] = true := by decide +kernel
theorem o_410 : oneS 4 1 0 [(1, 1, 16781312), (1, 1, 16777216), (1, 1, 0), (1, 4096, 0), (1, 4096, 1)] = true := by decide +kernel
theorem o_411 : oneS 4 1 1 [(1, 1, 4096), (1, 1, 0), (1, 1, 16777216), (1, 4096, 0), (1, 4096, 1)] = true := by decide +kernel
theorem o_420 : oneS 4 2 0 [(1, 1, 16777216), (1, 1, 16781312), (1, 1, 0), (1, 4096, 8192), (1, 4096, 8193)] = true := by decide +kernel
theorem o_421 : oneS 4 2 1 [(1, 1, 0), (1, 1, 4096), (1, 1, 68719476736), (1, 4096, 8192), (1, 4096, 8193)] = true := by decide +kernel
theorem o_422 : oneS 4 2 2 [(1, 1, 0), (1, 1, 4096), (1, 4096, 0), (1, 4096, 1152921504606851072), (1, 4096, 68719480832)] = true := by decide +kernel
theorem oneStep4 : OneStep 4 := oneStep_of (by decide) (by decide) (fa (one2_of o_400) (fa (one2_of o_410) (fa (one2_of o_411) (fa (one2_of o_420) (fa (one2_of o_421) (fa (one2_of o_422) fz))))))
theorem o_500 : oneS 5 0 0 [(1, 1, 1153202979583557633), (1, 1, 281474976714754), (1, 1, 16777217), (2, 68719476737, 562949970198531), (2, 68719476737, 50331651), (1, 1, 0), (1, 4096, 0), (1, 16777216, 1), (1, 16777216, 0), (1, 68719476736, 281474976710657), (1, 68719476736, 16777217), (1, 68719476736, 0), (1, 281474976710656, 1), (1, 281474976710656, 0)] = true := by decide +kernel
theorem o_510 : oneS 5 1 0 [(1, 1, 19342813113834066812080128), (1, 1, 1152921504623628288), (1, 1, 16777216), (2, 68719476737, 50339840), (2, 68719476737, 50331648), (1, 1, 0), (1, 16777216, 4096), (1, 16777216, 0), (1, 16777216, 1), (1, 68719476736, 16781312), (1, 68719476736, 16777216), (1, 68719476736, 0), (1, 281474976710656, 0), (1, 281474976710656, 1)] = true := by decide +kernel
theorem o_511 : oneS 5 1 1 [(1, 1, 19342813113834066795302912), (1, 1, 1152921504606851072), (1, 1, 0), (1, 4096, 4096), (1, 4096, 0), (1, 1, 16777216), (1, 16777216, 4096), (1, 16777216, 0), (1, 16777216, 1), (1, 68719476736, 4096), (1, 68719476736, 0), (1, 68719476736, 16777216), (1, 281474976710656, 0), (1, 281474976710656, 1)] = true := by decide +kernel
theorem o_520 : oneS 5 2 0 [(1, 1, 281543712964608), (1, 1, 281543696187392), (1, 1, 68719476736), (2, 68719476737, 206158430208), (2, 68719476737, 206158438400), (1, 16777216, 16777216), (1, 16777216, 0), (1, 16777216, 4096), (1, 4096, 0), (1, 68719476736, 68719476736), (1, 68719476736, 68719480832), (1, 68719476736, 0), (1, 281474976710656, 8192), (1, 281474976710656, 8193)] = true := by decide +kernel
theorem o_521 : oneS 5 2 1 [(1, 1, 68736253952), (1, 1, 68719476736), (1, 1, 0), (1, 4096, 0), (1, 4096, 4096), (1, 16777216, 16777216), (1, 16777216, 0), (1, 16777216, 4096), (2, 68719476737, 844424930131968), (1, 68719476736, 0), (1, 68719476736, 4096), (1, 68719476736, 281474976710656), (1, 281474976710656, 8192), (1, 281474976710656, 8193)] = true := by decide +kernel
theorem o_522 : oneS 5 2 2 [(1, 1, 16777216), (1, 1, 0), (1, 1, 68719476736), (1, 4096, 0), (1, 4096, 4096), (1, 16777216, 16777216), (1, 16777216, 0), (1, 16777216, 4096), (1, 16777216, 4097), (1, 68719476736, 0), (1, 68719476736, 4096), (1, 281474976710656, 0), (1, 281474976710656, 4722366482869645217792), (1, 281474976710656, 281474976714752)] = true := by decide +kernel
theorem o_530 : oneS 5 3 0 [(1, 1, 281543696187392), (1, 1, 281543712964608), (1, 1, 68719476736), (2, 68719476737, 206225539072), (2, 68719476737, 206225547264), (1, 16777216, 0), (1, 16777216, 16777216), (1, 1, 0), (1, 4096, 0), (1, 68719476736, 68769808384), (1, 68719476736, 68769812480), (1, 68719476736, 33554432), (1, 281474976710656, 50339840), (1, 281474976710656, 50339841)] = true := by decide +kernel
theorem o_531 : oneS 5 3 1 [(1, 1, 68719476736), (1, 1, 68736253952), (1, 1, 0), (1, 4096, 33554432), (1, 4096, 33558528), (1, 16777216, 0), (1, 16777216, 16777216), (1, 1, 1152921504606846976), (2, 68719476737, 3458764513820540928), (1, 68719476736, 50331648), (1, 68719476736, 50335744), (1, 68719476736, 1152921504640401408), (1, 281474976710656, 50339840), (1, 281474976710656, 50339841)] = true := by decide +kernel
theorem o_532 : oneS 5 3 2 [(1, 1, 0), (1, 1, 16777216), (1, 1, 281474976710656), (1, 4096, 33554432), (1, 4096, 33558528), (1, 16777216, 0), (1, 16777216, 16777216), (1, 16777216, 16781312), (1, 16777216, 16781313), (2, 281474976714752, 68820140032), (2, 281474976714752, 68820148224), (1, 281474976710656, 33554432), (1, 1, 2306405959183892480), (1, 281474976710656, 1152921504640405504)] = true := by decide +kernel
theorem o_533 : oneS 5 3 3 [(1, 1, 0), (1, 1, 16777216), (1, 4096, 0), (1, 4096, 19342813113834066812076032), (1, 4096, 1152921504623624192), (1, 16777216, 0), (1, 16777216, 16777216), (1, 68719476736, 0), (1, 281474976710656, 0), (2, 281474976714752, 58028439341502200436228096), (2, 281474976714752, 19342815419677076059324416), (1, 4096, 33554434), (3, 562949953421313, 2306405959251009536), (1, 1, 50339843)] = true := by decide +kernel
theorem oneStep5 : OneStep 5 := oneStep_of (by decide) (by decide) (fa (one2_of o_500) (fa (one2_of o_510) (fa (one2_of o_511) (fa (one2_of o_520) (fa (one2_of o_521) (fa (one2_of o_522) (fa (one2_of o_530) (fa (one2_of o_531) (fa (one2_of o_532) (fa (one2_of o_533) fz))))))))))
theorem o_600 : oneS 6 0 0 [(1, 1, 4723519685849228771329), (1, 1, 1153484454560268289), (1, 1, 281474976714754), (2, 68719476737, 2306687434143830019), (2, 68719476737, 844424930144261), (1, 1, 16777217), (1, 4096, 16777217), (2, 19342813113834066795298817, 562949970198531), (2, 19342813113834066795298817, 50331651), (2, 324518553658426726783156020580352, 2306405959183892483), (1, 68719476736, 281474993491970), (2, 324518553658426726783156020580352, 50331651), (2, 22300745198530623141535718272648361505984512, 562949986975748), (2, 22300745198530623141535718272648361505984512, 67108868), (1, 1, 0), (1, 4096, 0), (1, 16777216, 0), (1, 68719476736, 0), (1, 281474976710656, 0), (1, 1152921504606846976, 1), (1, 4722366482869645213696, 1), (1, 1152921504606846976, 0), (1, 4722366482869645213696, 0), (1, 19342813113834066795298816, 281474976710657), (1, 19342813113834066795298816, 16777217), (1, 19342813113834066795298816, 0), (1, 79228162514264337593543950336, 1), (1, 79228162514264337593543950336, 0), (1, 324518553658426726783156020576256, 1153202979583557633), (1, 324518553658426726783156020576256, 281474976714754), (1, 324518553658426726783156020576256, 16777217), (2, 22300745198855141695194144999431517526556672, 562949970198531), (2, 22300745198855141695194144999431517526556672, 50331651), (1, 324518553658426726783156020576256, 0), (1, 1329227995784915872903807060280344576, 0), (1, 5444517870735015415413993718908291383296, 1), (1, 5444517870735015415413993718908291383296, 0), (1, 22300745198530623141535718272648361505980416, 281474976710657), (1, 22300745198530623141535718272648361505980416, 16777217), (1, 22300745198530623141535718272648361505980416, 0), (1, 91343852333181432387730302044767688728495783936, 1), (1, 91343852333181432387730302044767688728495783936, 0)] = true := by decide +kernel
theorem o_610 : oneS 6 1 0 [(1, 1, 79247505327378171660356030464), (1, 1, 19342813113834066828861441), (1, 1, 1152921504623628288), (3, 324518553658426726783156020576258, 58028440494423705059872768), (3, 324518553658426726783156020576258, 4611686018494517248), (1, 1, 16777216), (1, 4096, 16777216), (2, 19342813113834066795298817, 50339840), (2, 19342813113834066795298817, 50331648), (2, 324518553658426726783156020580352, 38685626227668133640937472), (3, 649037107316853453566312041152513, 2305843009297596416), (2, 324518553658426726783156020580352, 50331648), (2, 22300745198530623141535718272648361505984512, 67117056), (2, 22300745198530623141535718272648361505984512, 67108864), (1, 1, 0), (1, 4096, 0), (1, 1152921504606846976, 4096), (1, 4722366482869645213696, 19342813113834066795302912), (1, 4722366482869645213696, 1152921504606851072), (1, 1152921504606846976, 0), (1, 4722366482869645213696, 0), (1, 1152921504606846976, 1), (1, 4722366482869645213696, 1), (1, 19342813113834066795298816, 16781312), (1, 19342813113834066795298816, 16777216), (1, 19342813113834066795298816, 0), (1, 79228162514264337593543950336, 0), (1, 79228162514264337593543950336, 1), (1, 324518553658426726783156020576256, 19342813113834066812080128), (1, 324518553658426726783156020576256, 1152921504623628288), (1, 324518553658426726783156020576256, 16777216), (2, 22300745198855141695194144999431517526556672, 50339840), (2, 22300745198855141695194144999431517526556672, 50331648), (1, 324518553658426726783156020576256, 0), (1, 5444517870735015415413993718908291383296, 4096), (1, 5444517870735015415413993718908291383296, 0), (1, 5444517870735015415413993718908291383296, 1), (1, 22300745198530623141535718272648361505980416, 16781312), (1, 22300745198530623141535718272648361505980416, 16777216), (1, 22300745198530623141535718272648361505980416, 0), (1, 91343852333181432387730302044767688728495783936, 0), (1, 91343852333181432387730302044767688728495783936, 1)] = true := by decide +kernel
theorem o_611 : oneS 6 1 1 [(1, 1, 79247505327378171660339253248), (1, 1, 19342813114115541772017664), (1, 1, 1152921504606851072), (2, 68719476737, 38685627380589638197456896), (2, 68719476737, 3458764513820553216), (1, 1, 0), (1, 4096, 0), (1, 16777216, 4096), (1, 16777216, 0), (1, 68719476736, 19342813113834066795302912), (1, 68719476736, 1152921504606851072), (1, 68719476736, 0), (1, 281474976710656, 4096), (1, 281474976710656, 0), (1, 1, 16777216), (1, 4096, 16777216), (1, 1152921504606846976, 4096), (1, 4722366482869645213696, 19342813113834066795302912), (1, 4722366482869645213696, 1152921504606851072), (1, 1152921504606846976, 0), (1, 4722366482869645213696, 0), (1, 1152921504606846976, 1), (1, 4722366482869645213696, 1), (1, 19342813113834066795298816, 4096), (1, 19342813113834066795298816, 0), (1, 19342813113834066795298816, 16777216), (1, 79228162514264337593543950336, 0), (1, 79228162514264337593543950336, 1), (1, 324518553658426726783156020576256, 19342813113834066795302912), (1, 324518553658426726783156020576256, 1152921504606851072), (1, 324518553658426726783156020576256, 0), (1, 1329227995784915872903807060280344576, 4096), (1, 1329227995784915872903807060280344576, 0), (1, 324518553658426726783156020576256, 16777216), (1, 5444517870735015415413993718908291383296, 4096), (1, 5444517870735015415413993718908291383296, 0), (1, 5444517870735015415413993718908291383296, 1), (1, 22300745198530623141535718272648361505980416, 4096), (1, 22300745198530623141535718272648361505980416, 0), (1, 22300745198530623141535718272648361505980416, 16777216), (1, 91343852333181432387730302044767688728495783936, 0), (1, 91343852333181432387730302044767688728495783936, 1)] = true := by decide +kernel
theorem o_620 : oneS 6 2 0 [(1, 1, 1329227995784915872904088603993309184), (1, 1, 281612432441345), (1, 1, 281543696187392), (3, 324518553658426726783156020576258, 1126174835081216), (3, 324518553658426726783156020576258, 1126174784749568), (1, 1, 68719476736), (2, 4722366482869645213697, 206175207425), (2, 19342813113834066795298817, 206158430208), (2, 19342813113834066795298817, 206158438400), (3, 649037107316853453566312041152513, 563293601136640), (3, 649037107316853453566312041152513, 563293550804992), (2, 324518553658426726783156020580352, 206158430208), (2, 22300745198530623141535718272648361505984512, 274877906944), (2, 22300745198530623141535718272648361505984512, 274877915136), (1, 1152921504606846976, 1329227995784915872903807060297121792), (1, 1152921504606846976, 68736253953), (1, 1152921504606846976, 0), (1, 4722366482869645213696, 281474993487872), (1, 4722366482869645213696, 281474976710656), (1, 1152921504606846976, 4096), (1, 4722366482869645213696, 0), (1, 16777216, 0), (1, 19342813113834066795298816, 16777216), (1, 19342813113834066795298816, 68719476736), (1, 19342813113834066795298816, 68719480832), (1, 19342813113834066795298816, 0), (1, 79228162514264337593543950336, 8192), (1, 79228162514264337593543950336, 8193), (1, 324518553658426726783156020576256, 281543712964608), (1, 324518553658426726783156020576256, 281543696187392), (1, 324518553658426726783156020576256, 68719476736), (2, 22300745198855141695194144999431517526556672, 206158430208), (2, 22300745198855141695194144999431517526556672, 206158438400), (1, 5444517870735015415413993718908291383296, 16777216), (1, 5444517870735015415413993718908291383296, 0), (1, 5444517870735015415413993718908291383296, 4096), (1, 1329227995784915872903807060280344576, 0), (1, 22300745198530623141535718272648361505980416, 68719476736), (1, 22300745198530623141535718272648361505980416, 68719480832), (1, 22300745198530623141535718272648361505980416, 0), (1, 91343852333181432387730302044767688728495783936, 8192), (1, 91343852333181432387730302044767688728495783936, 8193)] = true := by decide +kernel
theorem o_621 : oneS 6 2 1 [(1, 1, 1329227995784915872903807129016598528), (1, 1, 79228162514264337662280204288), (1, 1, 68719476736), (2, 68719476737, 206191984640), (2, 68719476737, 206158430208), (1, 1, 0), (1, 16777216, 16777216), (1, 16777216, 0), (1, 16777216, 4096), (1, 68719476736, 68736253952), (1, 68719476736, 68719476736), (1, 68719476736, 0), (1, 281474976710656, 0), (1, 281474976710656, 4096), (1, 1152921504606846976, 1329227995784915872903807060297121792), (1, 1152921504606846976, 79228162514264337593560727552), (1, 1152921504606846976, 0), (1, 4722366482869645213696, 68736253952), (1, 4722366482869645213696, 68719476736), (1, 1152921504606846976, 4096), (1, 4722366482869645213696, 0), (2, 19342813113834066795298817, 844424930131968), (1, 4722366482869645213696, 1), (1, 19342813113834066795298816, 0), (1, 19342813113834066795298816, 4096), (1, 19342813113834066795298816, 281474976710656), (1, 79228162514264337593543950336, 8192), (3, 22300745198530702389041045650820021845229568, 1329227995784915872904932960187199488), (1, 324518553658426726783156020576256, 68736253952), (1, 324518553658426726783156020576256, 68719476736), (1, 324518553658426726783156020576256, 0), (1, 1329227995784915872903807060280344576, 0), (1, 1329227995784915872903807060280344576, 4096), (1, 5444517870735015415413993718908291383296, 16777216), (1, 5444517870735015415413993718908291383296, 0), (1, 5444517870735015415413993718908291383296, 4096), (2, 22300745198855141695194144999431517526556672, 844424930131968), (1, 22300745198530623141535718272648361505980416, 0), (1, 22300745198530623141535718272648361505980416, 4096), (1, 22300745198530623141535718272648361505980416, 281474976710656), (1, 91343852333181432387730302044767688728495783936, 8192), (1, 91343852333181432387730302044767688728495783936, 8193)] = true := by decide +kernel
theorem o_622 : oneS 6 2 2 [(1, 1, 324518553658426726783156037353472), (1, 1, 19342813113834066812076032), (1, 1, 0), (1, 4096, 16777216), (1, 4096, 0), (1, 1, 68719476736), (1, 16777216, 16777216), (1, 16777216, 0), (1, 16777216, 4096), (1, 68719476736, 16777216), (1, 68719476736, 0), (1, 68719476736, 68719476736), (1, 281474976710656, 0), (1, 281474976710656, 4096), (1, 1152921504606846976, 324518553658426726783156037353472), (1, 1152921504606846976, 19342813113834066812076032), (1, 1152921504606846976, 0), (1, 4722366482869645213696, 16777216), (1, 4722366482869645213696, 0), (1, 1152921504606846976, 4096), (1, 4722366482869645213696, 68719476736), (1, 1152921504606846976, 4097), (1, 4722366482869645213696, 68719476737), (1, 19342813113834066795298816, 0), (1, 19342813113834066795298816, 4096), (1, 79228162514264337593543950336, 0), (1, 79228162514264337593543950336, 4722366482869645217792), (1, 79228162514264337593543950336, 281474976714752), (1, 324518553658426726783156020576256, 16777216), (1, 324518553658426726783156020576256, 0), (1, 324518553658426726783156020576256, 68719476736), (1, 1329227995784915872903807060280344576, 0), (1, 1329227995784915872903807060280344576, 4096), (1, 5444517870735015415413993718908291383296, 16777216), (1, 5444517870735015415413993718908291383296, 0), (1, 5444517870735015415413993718908291383296, 4096), (1, 5444517870735015415413993718908291383296, 4097), (1, 22300745198530623141535718272648361505980416, 0), (1, 22300745198530623141535718272648361505980416, 4096), (1, 91343852333181432387730302044767688728495783936, 0), (1, 91343852333181432387730302044767688728495783936, 4722366482869645217792), (1, 91343852333181432387730302044767688728495783936, 281474976714752)] = true := by decide +kernel
theorem o_630 : oneS 6 3 0 [(1, 1, 1153484523279745025), (1, 1, 1153484454560268289), (1, 1, 1153202979583557632), (3, 324518553658426726783156020576258, 4612811918334230528), (3, 324518553658426726783156020576258, 4612811918384562176), (2, 19342813113834066795298817, 844562369085440), (2, 19342813113834066795298817, 844424930131968), (2, 4722366482869645213697, 844424963686401), (1, 4096, 281474976710656), (3, 649037107316853453566312041152513, 2307250384097247232), (3, 649037107316853453566312041152513, 2307250384147578880), (2, 324518553658426726783156020580352, 844424930131968), (2, 22300745198530623141535718272648361505984512, 1125899973951488), (2, 22300745198530623141535718272648361505984512, 1125899973959680), (1, 1152921504606846976, 281543696187393), (1, 1152921504606846976, 281474976710657), (1, 1152921504606846976, 0), (1, 4722366482869645213696, 1152921504606846976), (1, 4722366482869645213696, 1152921504623624192), (1, 4722366482869645213696, 68719476736), (1, 4722366482869645213696, 0), (1, 19342813113834066795298816, 68719476736), (1, 19342813113834066795298816, 0), (1, 4722366482869645213696, 281475010265089), (1, 4722366482869645213696, 281475010269185), (1, 19342813113834066795298816, 16777216), (1, 68719476736, 0), (1, 281474976710656, 0), (1, 324518553658426726783156020576256, 1153202979583557632), (1, 324518553658426726783156020576256, 1153202979600334848), (1, 324518553658426726783156020576256, 281474976710656), (2, 22300745198855141695194144999431517526556672, 844424997240832), (2, 22300745198855141695194144999431517526556672, 844424997249024), (1, 5444517870735015415413993718908291383296, 0), (1, 5444517870735015415413993718908291383296, 16777216), (1, 324518553658426726783156020576256, 0), (1, 1329227995784915872903807060280344576, 0), (1, 22300745198530623141535718272648361505980416, 281475027042304), (1, 22300745198530623141535718272648361505980416, 281475027046400), (1, 5444517870735015415413993718908291383296, 79228162514264337593577504769), (1, 91343852333181432387730302044767688728495783936, 50339840), (1, 91343852333181432387730302044767688728495783936, 50339841)] = true := by decide +kernel
theorem o_631 : oneS 6 3 1 [(1, 1, 1153203048303034368), (1, 1, 1153202979583557632), (1, 1, 281474976710656), (2, 68719476737, 844424930131968), (2, 68719476737, 844424963686400), (1, 16777216, 68719476736), (1, 16777216, 0), (1, 16777216, 16777216), (1, 4096, 0), (1, 68719476736, 281474976710656), (1, 68719476736, 281474993487872), (1, 68719476736, 0), (1, 281474976710656, 33554432), (1, 281474976710656, 33558528), (1, 1152921504606846976, 1152921573326323712), (1, 1152921504606846976, 1152921504606846976), (1, 1152921504606846976, 0), (1, 4722366482869645213696, 281474976710656), (1, 4722366482869645213696, 281474993487872), (1, 4722366482869645213696, 68719476736), (1, 4722366482869645213696, 0), (1, 4722366482869645213696, 68719476737), (1, 4722366482869645213696, 1), (1, 4722366482869645213696, 1152921504640401408), (1, 19342813113834066795298816, 33558528), (1, 4722366482869645213696, 16777217), (2, 324518553658426726783156020580352, 14167099448608935641088), (2, 22300745198530623141535718272648361505984512, 18889465931478580854784), (1, 324518553658426726783156020576256, 281474976710656), (1, 324518553658426726783156020576256, 281474993487872), (1, 324518553658426726783156020576256, 0), (1, 1329227995784915872903807060280344576, 33554432), (1, 1329227995784915872903807060280344576, 33558528), (1, 5444517870735015415413993718908291383296, 0), (1, 5444517870735015415413993718908291383296, 16777216), (1, 324518553658426726783156020576256, 4722366482869645213696), (2, 22300745198855141695194144999431517526556672, 14167099448608935641088), (1, 22300745198530623141535718272648361505980416, 50331648), (1, 22300745198530623141535718272648361505980416, 50335744), (1, 22300745198530623141535718272648361505980416, 4722366482869678768128), (1, 91343852333181432387730302044767688728495783936, 50339840), (1, 91343852333181432387730302044767688728495783936, 50339841)] = true := by decide +kernel
theorem o_632 : oneS 6 3 2 [(1, 1, 281543696187392), (1, 1, 281474976710656), (1, 1, 0), (1, 4096, 0), (1, 4096, 16777216), (1, 16777216, 68719476736), (1, 16777216, 0), (1, 16777216, 16777216), (2, 68719476737, 3458764513820540928), (1, 68719476736, 0), (1, 68719476736, 16777216), (1, 68719476736, 1152921504606846976), (1, 281474976710656, 33554432), (1, 281474976710656, 33558528), (1, 1152921504606846976, 281543696187392), (1, 1152921504606846976, 281474976710656), (1, 1152921504606846976, 0), (1, 4722366482869645213696, 0), (1, 4722366482869645213696, 16777216), (1, 4722366482869645213696, 1152921573326323712), (1, 4722366482869645213696, 1152921504606846976), (1, 79228162514264337593543950336, 68719476736), (1, 79228162514264337593543950336, 0), (1, 4722366482869645213696, 1153202979617112064), (12, 91343852333182405943429962955787955298528919552, 14987979560090337280), (1, 4722366482869645213696, 1152921504623624193), (1, 5444517870735015415413993718908291383296, 1152921573343100928), (2, 5444517870735015415415146640412898230272, 50343939), (1, 324518553658426726783156020576256, 0), (1, 324518553658426726783156020576256, 16777216), (1, 324518553658426726783156020576256, 1152921504606846976), (1, 1329227995784915872903807060280344576, 33554432), (1, 1329227995784915872903807060280344576, 33558528), (1, 5444517870735015415413993718908291383296, 0), (1, 5444517870735015415413993718908291383296, 16777216), (1, 5444517870735015415413993718908291383296, 16781312), (1, 5444517870735015415413993718908291383296, 16781313), (2, 91343852334510660383515217917671495788776128512, 281475077373952), (2, 91343852334510660383515217917671495788776128512, 281475077382144), (1, 91343852333181432387730302044767688728495783936, 33554432), (3, 182687704666363189294014262516262160613012144128, 9444732965739407884288), (1, 91343852333181432387730302044767688728495783936, 4722366482869678772224)] = true := by decide +kernel
theorem o_633 : oneS 6 3 3 [(1, 1, 68719476736), (1, 1, 0), (1, 1, 281474976710656), (1, 4096, 0), (1, 4096, 16777216), (1, 16777216, 68719476736), (1, 16777216, 0), (1, 16777216, 16777216), (1, 16777216, 16781312), (1, 68719476736, 0), (1, 68719476736, 16777216), (1, 281474976710656, 0), (1, 281474976710656, 79228162514264337593560727552), (1, 281474976710656, 4722366482869661990912), (1, 1152921504606846976, 68719476736), (1, 1152921504606846976, 0), (1, 1152921504606846976, 281474976710656), (1, 4722366482869645213696, 0), (1, 4722366482869645213696, 16777216), (1, 19342813113834066795298816, 68719476736), (1, 19342813113834066795298816, 0), (1, 79228162514264337593543950336, 68719476736), (1, 79228162514264337593543950336, 0), (1, 19342813113834066795298816, 79228162514264337593560727552), (1, 19342813113834066795298816, 4722366482869661990912), (1, 79228162514264337593543950336, 16777216), (2, 22300745198530702369698232536985955049930752, 68753035264), (2, 91343852333181432466958464559032026322039734272, 68753035265), (1, 324518553658426726783156020576256, 0), (1, 324518553658426726783156020576256, 16777216), (1, 1329227995784915872903807060280344576, 0), (1, 1329227995784915872903807060280344576, 79228162514264337593560727552), (1, 1329227995784915872903807060280344576, 4722366482869661990912), (1, 5444517870735015415413993718908291383296, 0), (1, 5444517870735015415413993718908291383296, 16777216), (1, 22300745198530623141535718272648361505980416, 0), (1, 91343852333181432387730302044767688728495783936, 0), (2, 91343852334510660383515217917671495788776128512, 237684487542793012780682182656), (2, 91343852334510660383515217917671495788776128512, 79228171958997303332884709376), (1, 91343852333181432387730302044767688728495783936, 79228162514264337593560727552), (3, 182687704666363189294014262516262160613012144128, 9447038808748588015616), (1, 91343852333181432387730302044767688728495783936, 4723519404374268837888)] = true := by decide +kernel
theorem o_640 : oneS 6 4 0 [(1, 1, 1153484454560268289), (1, 1, 1153484523279745025), (1, 1, 1153202979583557632), (3, 324518553658426726783156020576258, 4612812330651090944), (3, 324518553658426726783156020576258, 4612812330701422592), (2, 19342813113834066795298817, 844424930131968), (2, 19342813113834066795298817, 844562369085440), (1, 1, 281474976710656), (1, 4096, 281474976710656), (3, 649037107316853453566312041152513, 2307251002572537856), (3, 649037107316853453566312041152513, 2307251002622869504), (2, 324518553658426726783156020580352, 844699808038912), (3, 91343852333181432387730302044767688728495792128, 324518553658426728191080743829504), (3, 91343852333181432387730302044767688728495792128, 1689468436234241), (1, 1152921504606846976, 281474976710657), (1, 1152921504606846976, 281543696187393), (1, 1152921504606846976, 0), (1, 4722366482869645213696, 1152921642045800448), (1, 4722366482869645213696, 1152921642062577664), (1, 4722366482869645213696, 0), (1, 4722366482869645213696, 68719476736), (1, 19342813113834066795298816, 0), (1, 19342813113834066795298816, 68719476736), (1, 1, 0), (1, 4096, 0), (1, 16777216, 0), (1, 68719476736, 0), (1, 281474976710656, 0), (1, 324518553658426726783156020576256, 1153203254461464576), (1, 324518553658426726783156020576256, 1153203254478241792), (1, 324518553658426726783156020576256, 281681135140864), (6, 182687704666363838331121579369715726925053300736, 649037107316853455538148874387456), (4, 182687704666363189294014262516262160613012148224, 1408474529423360), (2, 1329227995784920595270289929925558272, 2305843421530558464), (1, 68719476736, 1152921642045800448), (1, 324518553658426726783156020576256, 137438953472), (1, 1329227995784915872903807060280344576, 137438953472), (5, 274031556999544297163190906134303066254206828545, 1298074214633706907696673731903488), (3, 182687704666362864775460604089535377456991567873, 845249714872322), (3, 182687704666362864775460604089535377456991567873, 618575966210), (1, 91343852333181432387730302044767688728495783936, 274928246784), (1, 91343852333181432387730302044767688728495783936, 274928246785)] = true := by decide +kernel
theorem o_641 : oneS 6 4 1 [(1, 1, 1153202979583557632), (1, 1, 1153203048303034368), (1, 1, 281474976710656), (2, 68719476737, 844699808038912), (2, 68719476737, 844699841593344), (1, 16777216, 0), (1, 16777216, 68719476736), (1, 1, 0), (1, 4096, 0), (1, 68719476736, 281681135140864), (1, 68719476736, 281681151918080), (1, 16777216, 1329227995784915872903807197719302144), (1, 281474976710656, 206191984640), (1, 281474976710656, 206191988736), (1, 1152921504606846976, 1152921504606846976), (1, 1152921504606846976, 1152921573326323712), (1, 1152921504606846976, 0), (1, 4722366482869645213696, 281612415664128), (1, 4722366482869645213696, 281612432441344), (1, 4722366482869645213696, 0), (1, 4722366482869645213696, 68719476736), (1, 4722366482869645213696, 1), (1, 4722366482869645213696, 68719476737), (1, 1, 19342813113834066795298816), (1, 4096, 19342813113834066795298816), (2, 4722366482869645213697, 38685626227668133590597633), (2, 324518553658426726783156020580352, 58028439341502200385896448), (2, 22300745198530623141535718272648361505984512, 77371252455336267181195264), (1, 324518553658426726783156020576256, 281749854617600), (1, 324518553658426726783156020576256, 281749871394816), (1, 324518553658426726783156020576256, 206158430208), (3, 22300745198855141695194144999712992503267328, 4722366483694379597824), (4, 91343852333181756906283960471495034834469781504, 282574622580736), (2, 324597781820940991120749564526592, 19347535480317348757372928), (3, 649037107316853453566312041152513, 77371252455899629451476992), (1, 324518553658426726783156020576256, 19342813113834204234252288), (2, 22300745198855141695194144999431517526556672, 58028439341502475263803392), (1, 22300745198530623141535718272648361505980416, 274928238592), (1, 22300745198530623141535718272648361505980416, 274928242688), (1, 22300745198530623141535718272648361505980416, 19342813113834272987283456), (1, 91343852333181432387730302044767688728495783936, 274928246784), (1, 91343852333181432387730302044767688728495783936, 274928246785)] = true := by decide +kernel
theorem o_642 : oneS 6 4 2 [(1, 1, 281474976710656), (1, 1, 281543696187392), (1, 1, 0), (1, 4096, 137438953472), (1, 4096, 137455730688), (1, 16777216, 0), (1, 16777216, 68719476736), (1, 1, 4722366482869645213696), (2, 68719476737, 14167099448608935641088), (1, 68719476736, 206158430208), (1, 68719476736, 206175207424), (1, 68719476736, 4722366483007084167168), (1, 281474976710656, 206191984640), (1, 281474976710656, 206191988736), (1, 1152921504606846976, 281474976710656), (1, 1152921504606846976, 281543696187392), (1, 1152921504606846976, 0), (1, 4722366482869645213696, 137438953472), (1, 4722366482869645213696, 137455730688), (1, 4722366482869645213696, 4722366482869645213696), (1, 4722366482869645213696, 4722366482938364690432), (1, 79228162514264337593543950336, 0), (1, 79228162514264337593543950336, 68719476736), (7, 91343852333181432387730302048226453242316324867, 23611832414760643592193), (7, 91343852333182081424837618900527098049750630402, 47223664828971397152768), (3, 5444517870735015415416299561917505077248, 9444732965876762935298), (2, 5444517870814243577928258056501835333632, 206208770048), (2, 5444517870735015415415146640412898230272, 206208774147), (1, 324518553658426726783156020576256, 274877906944), (1, 324518553658426726783156020576256, 274894684160), (1, 324518553658426726783156020576256, 4722366483075803643904), (6, 91343852333182405943391277324948601146510934016, 158456329750895159568729374720), (4, 91343852333181432387730302044767970340911448064, 19342813113835097704914944), (1, 5444517870735015415413993718908291383296, 206158430208), (1, 4722366482869645213696, 19342813113834272970510336), (1, 5444517870735015415413993718908291383296, 5444517870735015420136360201915392327680), (2, 5444517870814243577928258056501835333632, 38685626227668477204766720), (1, 22300745198530623141535718272648361505980416, 274928238592), (1, 22300745198530623141535718272648361505980416, 274928242688), (1, 91343852333181432387730302044767688728495783936, 206191984640), (3, 182687704666363189294014262516262160613012144128, 38685626227668820902821888), (1, 324518553658426726783156020576256, 274928246787)] = true := by decide +kernel
theorem o_643 : oneS 6 4 3 [(1, 1, 0), (1, 1, 68719476736), (1, 1, 1152921504606846976), (1, 4096, 137438953472), (1, 4096, 137455730688), (1, 16777216, 0), (1, 16777216, 68719476736), (1, 16777216, 68736253952), (1, 16777216, 68736258048), (2, 281474976714752, 281887293571072), (2, 281474976714752, 281887327125504), (1, 281474976710656, 137438953472), (3, 562949953421313, 38685626227668614694043648), (1, 281474976710656, 19342813113834204251029504), (1, 1152921504606846976, 0), (1, 1152921504606846976, 68719476736), (1, 1152921504606846976, 1152921504606846976), (1, 4722366482869645213696, 137438953472), (3, 2305843009213698048, 4726978169094231031808), (1, 1152921504606846976, 1152921504606851072), (1, 1152921504606846976, 1152921573326327808), (1, 79228162514264337593543950336, 0), (1, 79228162514264337593543950336, 68719476736), (2, 79228162514264337593560727552, 206208761856), (2, 79228162514264337593560727552, 206208770048), (1, 16777216, 2305843009213693954), (2, 22300745198530702369698232536985955049930752, 137472512000), (5, 182687704666362864933916929118064052644079468545, 77371260525786799429124101), (1, 324518553658426726783156020576256, 274877906944), (1, 324518553658426726783156020576256, 274894684160), (3, 22300745198855141695194144999712992503267328, 618475294720), (1, 281474976710656, 4722366483075820421120), (5, 22300745198855141695194144999431517526556675, 9444732966976375275520), (1, 5444517870735015415413993718908291383296, 206158430208), (9, 89202980794447011119801303276141115865038849, 28342269348987069792256), (1, 22300745198530623141535718272648361505980416, 137438953472), (1, 91343852333181432387730302044767688728495783936, 137438953472), (3, 79228162514264337593543950338, 96732960799709679222521856), (7, 274076158489941682928027635997575146064519888897, 193428131138341905088118784), (7, 456719261665907486457205168650565226798499495937, 58028439341503437521027077), (7, 365375409332726054069474866605797538070003712002, 37778931864331769397248), (1, 324518553658426726783156020576256, 274928246787)] = true := by decide +kernel
theorem o_644 : oneS 6 4 4 [(1, 1, 0), (1, 1, 68719476736), (1, 4096, 0), (1, 4096, 324518553658426726783224740052992), (1, 4096, 19342813113834135514775552), (1, 16777216, 0), (1, 16777216, 68719476736), (1, 68719476736, 0), (1, 281474976710656, 0), (2, 281474976714752, 973555660975280180349674220158976), (2, 281474976714752, 324518592344052954451495769604096), (1, 4096, 137438961664), (3, 562949953421313, 38695070960634216511963136), (1, 1, 206191996928), (1, 1152921504606846976, 0), (1, 1152921504606846976, 68719476736), (1, 4722366482869645213696, 0), (1, 4722366482869645213696, 324518553658426726783224740052992), (1, 4722366482869645213696, 19342813113834135514775552), (1, 19342813113834066795298816, 0), (1, 19342813113834066795298816, 68719476736), (1, 79228162514264337593543950336, 0), (1, 79228162514264337593543950336, 68719476736), (1, 324518553658426726783156020576256, 0), (2, 22300745198530623141535718272929836482691072, 281474976710656), (3, 22300745198530702369702954903468824695144448, 1153484454560268288), (1, 22300745198530623141535718272648361505980416, 0), (1, 91343852333181432387730302044767688728495783936, 0), (14, 274031556999544297163190929746136606433620262914, 8762001142205652761487873373372416), (14, 274031556999544297163190929746136606433620262914, 4218741661787062180200624219488256), (1, 1152921504606846976, 38685626227668339749036032), (6, 66902235595591869424607154818226559494651906, 135418581262770839517921280), (3, 22300745198530623141535718272648361505980418, 38685627380590256723095552), (2, 91343852333181432387730306767134171598140997632, 973555660975280180349674220158976), (2, 22300745198530623141540440639131231151194112, 324518573001240993538933581152256), (2, 91343852333181432387730306767134171598140997632, 324518592344052954451495769612288), (1, 91343852333181432387730302044767688728495783936, 324518553658426726783224740052992), (1, 281474976710656, 2305843146669424640), (1, 281474976710656, 2305843146669428736), (5, 182732306156759926021743675526080674180003528705, 9450497573812130807808), (3, 44601490397061246283071436545296723011960833, 19342818878442002196746240), (3, 182687704666362864775460604089535377456991567873, 6917529440008294400)] = true := by decide +kernel
theorem oneStep6 : OneStep 6 := oneStep_of (by decide) (by decide) (fa (one2_of o_600) (fa (one2_of o_610) (fa (one2_of o_611) (fa (one2_of o_620) (fa (one2_of o_621) (fa (one2_of o_622) (fa (one2_of o_630) (fa (one2_of o_631) (fa (one2_of o_632) (fa (one2_of o_633) (fa (one2_of o_640) (fa (one2_of o_641) (fa (one2_of o_642) (fa (one2_of o_643) (fa (one2_of o_644) fz)))))))))))))))
end Mine
end

/-! Pe -/
section
set_option Elab.async false
set_option maxRecDepth 100000
set_option maxHeartbeats 1000000
/-! all the ways that the joining can go -/
namespace Mine
inductive Ct
  | no (k : Nat)
  | ok
  | nil
  | br (c rest : Ct)
def vsum : List (List Nat) → List Nat
  | [] => []
  | t :: T => vadd t (vsum T)
def is01 : List Nat → Bool
  | [] => true
  | x :: a => Nat.ble x 1 && is01 a
def leafOk (n : Nat) (T : List (List Nat)) : Bool := T.all is01 && (trees 6 n).any fun U => beqV (vsum T) (0 :: U)
def loopC (k : Nat → Nat → Ct → Bool) : List (Nat × Nat) → Ct → Bool
  | [], _ => true
  | (a, lo) :: ps, .br c rest => k a lo c && loopC k ps rest
  | _ :: _, _ => false
theorem loopC_ok {k : Nat → Nat → Ct → Bool} : ∀ (ps : List (Nat × Nat)) (ct : Ct), loopC k ps ct = true → ∀ a lo, (a, lo) ∈ ps → ∃ c, k a lo c = true
  | [], _, _, _, _, h => by cases h
  | (a, lo) :: ps, .br c rest, h, a', lo', hm => by
    simp only [loopC, Bool.and_eq_true] at h
    rcases List.mem_cons.mp hm with e | hm
    · cases e; exact ⟨c, h.1⟩
    · exact loopC_ok ps rest h.2 a' lo' hm
  | (a, lo) :: ps, .no _, h, _, _, _ => by simp [loopC] at h
  | (a, lo) :: ps, .ok, h, _, _, _ => by simp [loopC] at h
  | (a, lo) :: ps, .nil, h, _, _, _ => by simp [loopC] at h
/-- the form of what is joined -/
def tv (R : List (List Nat)) (a : Nat) : List Nat := vadd (R.getD a []) (R.getD (a + 1) [])
def chk (n : Nat) : Nat → List (List Nat) → List (List Nat × List Nat) → List (List Nat) → Ct → Bool
  | 0, R, C, T, ct => (match ct with
      | .no k => noV C k
      | .ok => Nat.ble R.length 1 && leafOk n T
      | _ => false)
  | f + 1, R, C, T, ct => (match ct with
      | .no k => noV C k
      | .ok => Nat.ble R.length 1 && leafOk n T
      | ct => Nat.blt 1 R.length && loopC (fun a lo c => chk n f (sstep R a lo) (cons R a lo ++ C) (tv R a :: T) c) (pairsN R.length) ct)
def path2 (n f : Nat) (p : Nat × Nat) : Prop := ∃ c, chk n f (sstep (base n) p.1 p.2) (cons (base n) p.1 p.2 ++ posV n) [tv (base n) p.1] c = true
theorem path2_of {n f a lo : Nat} {c : Ct} (h : chk n f (sstep (base n) a lo) (cons (base n) a lo ++ posV n) [tv (base n) a] c = true) : path2 n f (a, lo) := ⟨c, h⟩
/-- texts and forms that say the same -/
def Inv (w : List Nat) (ps R : List (List Nat)) : Prop := ps.map List.length = R.map (fun x => ev x (1 :: w)) ∧ ∀ p : Nat, ps.map (List.count (97 + p)) = R.map (fun x => x.getD (p + 1) 0 * w.getD p 0)
theorem step_map {α β γ : Type} {f : α → γ} {g : β → γ} {ps : List α} {R : List β} {j : α} {t : β} (a lo : Nat) (h : ps.map f = R.map g) (hj : f j = g t) : (ps.take lo ++ [j] ++ (ps.take a).drop lo ++ ps.drop (a + 2)).map f = (R.take lo ++ [t] ++ (R.take a).drop lo ++ R.drop (a + 2)).map g := by
  simp only [List.map_append, List.map_take, List.map_drop, List.map_cons, List.map_nil, h, hj]
theorem Inv.tot {w : List Nat} {ps R : List (List Nat)} (i : Inv w ps R) (a : Nat) : (ps.getD a [] ++ ps.getD (a + 1) []).length = ev (tv R a) (1 :: w) ∧ ∀ p : Nat, List.count (97 + p) (ps.getD a [] ++ ps.getD (a + 1) []) = (tv R a).getD (p + 1) 0 * w.getD p 0 := by
  obtain ⟨h1, h2⟩ := i
  have g1 : ∀ k, (ps.getD k []).length = ev (R.getD k []) (1 :: w) := fun k => by
    rw [← getD_map List.length ps k [] 0 rfl, h1]
    exact getD_map (fun x => ev x (1 :: w)) R k [] 0 (ev_nil _)
  have g2 : ∀ p k, List.count (97 + p) (ps.getD k []) = (R.getD k []).getD (p + 1) 0 * w.getD p 0 := fun p k => by
    rw [← getD_map (List.count (97 + p)) ps k [] 0 rfl, h2 p]
    exact getD_map (fun x => x.getD (p + 1) 0 * w.getD p 0) R k [] 0 (by simp)
  refine ⟨?_, fun p => ?_⟩
  · rw [List.length_append, g1, g1]
    unfold tv
    rw [ev_vadd]
  · rw [List.count_append, g2, g2]
    unfold tv
    rw [vadd_getD, Nat.add_mul]
theorem Inv.step {w : List Nat} {ps R : List (List Nat)} (i : Inv w ps R) : Inv w (gstep ps).2 (sstep R (atF (ps.map List.length)) (rlow (ps.map List.length))) := by
  obtain ⟨t1, t2⟩ := i.tot (atF (ps.map List.length))
  exact ⟨step_map _ _ i.1 t1, fun p => step_map _ _ (i.2 p) (t2 p)⟩
theorem gw_one {g : Nat} {ps : List (List Nat)} (h : ps.length ≤ 1) : gw g ps = [] := by
  cases g with
  | zero => rfl
  | succ k => rw [gw, if_pos h]
theorem path_ok {n : Nat} {w : List Nat} : ∀ (f : Nat) (R : List (List Nat)) (C : List (List Nat × List Nat)) (T : List (List Nat)) (ct : Ct) (ps js : List (List Nat)) (g : Nat), chk n f R C T ct = true → Inv w ps R → (∀ c ∈ C, Ok (1 :: w) c) → Inv w js T → ps.length ≤ g →
    ∃ T', leafOk n T' = true ∧ Inv w ((gw g ps).reverse ++ js) T' := by
  intro f
  induction f with
  | zero =>
    intro R C T ct ps js g h i hC hJ hg
    have hl : ps.length = R.length := by have := congrArg List.length i.1; simpa using this
    match ct, h with
    | .no k, h => exact (noV_false h hC).elim
    | .ok, h =>
      simp only [chk, Bool.and_eq_true] at h
      have := Nat.le_of_ble_eq_true h.1
      rw [gw_one (by (first | lia | omega))]
      exact ⟨T, h.2, hJ⟩
    | .nil, h => simp [chk] at h
    | .br _ _, h => simp [chk] at h
  | succ f ih =>
    intro R C T ct ps js g h i hC hJ hg
    have hl : ps.length = R.length := by have := congrArg List.length i.1; simpa using this
    have main : (Nat.blt 1 R.length && loopC (fun a lo c => chk n f (sstep R a lo) (cons R a lo ++ C) (tv R a :: T) c) (pairsN R.length) ct) = true → ∃ T', leafOk n T' = true ∧ Inv w ((gw g ps).reverse ++ js) T' := by
      intro h
      rw [Bool.and_eq_true] at h
      have h2 : 1 < R.length := Nat.le_of_ble_eq_true h.1
      have hat := atF_lt (ps.map List.length) (by simp; (first | lia | omega))
      rw [List.length_map] at hat
      have hlo : rlow (ps.map List.length) ≤ atF (ps.map List.length) := lowF_le _ _ _
      obtain ⟨c, hc⟩ := loopC_ok _ _ h.2 (atF (ps.map List.length)) (rlow (ps.map List.length)) (pairsN_mem (by (first | lia | omega)) hlo)
      have hC' : ∀ c ∈ cons R (atF (ps.map List.length)) (rlow (ps.map List.length)) ++ C, Ok (1 :: w) c := by
        intro c hc
        rcases List.mem_append.mp hc with hc | hc
        · exact cons_ok (r := ps.map List.length) i.1 rfl rfl c hc
        · exact hC c hc
      obtain ⟨t1, t2⟩ := i.tot (atF (ps.map List.length))
      have hJ' : Inv w ((gstep ps).1 :: js) (tv R (atF (ps.map List.length)) :: T) := by
        refine ⟨?_, fun p => ?_⟩
        · rw [List.map_cons, List.map_cons, hJ.1]
          congr 1
        · rw [List.map_cons, List.map_cons, hJ.2 p]
          congr 1
          exact t2 p
      have hgl := gstep_len ps (by (first | lia | omega))
      cases g with
      | zero => (first | lia | omega)
      | succ g =>
        obtain ⟨T', l1, l2⟩ := ih _ _ _ c (gstep ps).2 ((gstep ps).1 :: js) g hc i.step hC' hJ' (by (first | lia | omega))
        refine ⟨T', l1, ?_⟩
        rw [gw, if_neg (by (first | lia | omega)), List.reverse_cons, List.append_assoc]
        exact l2
    match ct, h with
    | .no k, h => exact (noV_false h hC).elim
    | .ok, h =>
      simp only [chk, Bool.and_eq_true] at h
      have := Nat.le_of_ble_eq_true h.1
      rw [gw_one (by (first | lia | omega))]
      exact ⟨T, h.2, hJ⟩
    | .nil, h => exact main h
    | .br _ _, h => exact main h
theorem inv_leaves {w : List Nat} (h6 : w.length ≤ 6) : Inv w (leavesN w w.length) (base w.length) := by
  refine ⟨by rw [leaves_row, base_ev w h6], fun p => ?_⟩
  unfold leavesN base
  rw [List.map_map, List.map_map]
  refine List.map_congr_left fun i hi => ?_
  have hi := List.mem_range.mp hi
  simp only [Function.comp, List.count_replicate, List.getD_cons_succ]
  have eg : ((List.range w.length).map fun j => if j = i then 1 else 0).getD p 0 = if p = i then 1 else 0 := by
    rw [List.getD_eq_getElem?_getD, List.getElem?_map]
    by_cases hp : p < w.length
    · rw [List.getElem?_range hp]; rfl
    · rw [List.getElem?_eq_none (by simp; (first | lia | omega)), if_neg (by (first | lia | omega))]; rfl
  rw [eg]
  by_cases e : p = i
  · subst e; simp
  · have hne : ¬ ((97 + i == 97 + p) = true) := by simp; (first | lia | omega)
    rw [if_neg hne, if_neg e]
    simp
end Mine
end

/-! Pf -/
section
set_option Elab.async false
set_option maxRecDepth 100000
set_option maxHeartbeats 1000000
/-! certificates of the paths; this text is printed by wip/tools/print2.py -/
namespace Mine
theorem p_400 : chk 4 2 (sstep (base 4) 0 0) (cons (base 4) 0 0 ++ posV 4) [tv (base 4) 0] (.br (.br (.ok) .nil) (.br (.br (.ok) .nil) (.br (.br (.ok) .nil) .nil))) = true := by decide +kernel
theorem p_410 : chk 4 2 (sstep (base 4) 1 0) (cons (base 4) 1 0 ++ posV 4) [tv (base 4) 1] (.br (.br (.ok) .nil) (.br (.br (.ok) .nil) (.br (.no 68736258048) .nil))) = true := by decide +kernel
theorem p_411 : chk 4 2 (sstep (base 4) 1 1) (cons (base 4) 1 1 ++ posV 4) [tv (base 4) 1] (.br (.br (.ok) .nil) (.br (.br (.ok) .nil) (.br (.br (.ok) .nil) .nil))) = true := by decide +kernel
theorem p_420 : chk 4 2 (sstep (base 4) 2 0) (cons (base 4) 2 0 ++ posV 4) [tv (base 4) 2] (.br (.no 281474976710657) (.br (.br (.ok) .nil) (.br (.no 68736258048) .nil))) = true := by decide +kernel
theorem p_421 : chk 4 2 (sstep (base 4) 2 1) (cons (base 4) 2 1 ++ posV 4) [tv (base 4) 2] (.br (.no 281543696187393) (.br (.br (.ok) .nil) (.br (.br (.ok) .nil) .nil))) = true := by decide +kernel
theorem p_422 : chk 4 2 (sstep (base 4) 2 2) (cons (base 4) 2 2 ++ posV 4) [tv (base 4) 2] (.br (.br (.ok) .nil) (.br (.br (.ok) .nil) (.br (.br (.ok) .nil) .nil))) = true := by decide +kernel
theorem paths4 : ∀ q ∈ pairsN 4, path2 4 2 q := fa (path2_of p_400) (fa (path2_of p_410) (fa (path2_of p_411) (fa (path2_of p_420) (fa (path2_of p_421) (fa (path2_of p_422) fz)))))
theorem p_500 : chk 5 3 (sstep (base 5) 0 0) (cons (base 5) 0 0 ++ posV 5) [tv (base 5) 0] (.br (.br (.br (.ok) .nil) (.br (.br (.ok) .nil) (.br (.br (.ok) .nil) .nil))) (.br (.br (.br (.ok) .nil) (.br (.br (.ok) .nil) (.br (.no 68736258048) .nil))) (.br (.br (.br (.ok) .nil) (.br (.br (.ok) .nil) (.br (.br (.ok) .nil) .nil))) (.br (.br (.no 281474976710657) (.br (.br (.ok) .nil) (.br (.no 68736258048) .nil))) (.br (.br (.no 281543696187393) (.br (.br (.ok) .nil) (.br (.br (.ok) .nil) .nil))) (.br (.br (.br (.ok) .nil) (.br (.br (.ok) .nil) (.br (.br (.ok) .nil) .nil))) .nil)))))) = true := by decide +kernel
theorem p_510 : chk 5 3 (sstep (base 5) 1 0) (cons (base 5) 1 0 ++ posV 5) [tv (base 5) 1] (.br (.br (.br (.ok) .nil) (.br (.br (.ok) .nil) (.br (.br (.ok) .nil) .nil))) (.br (.br (.br (.ok) .nil) (.br (.br (.ok) .nil) (.br (.no 68736258048) .nil))) (.br (.no 281543712964608) (.br (.br (.no 19342813113834135514775553) (.br (.br (.ok) .nil) (.br (.no 68736258048) .nil))) (.br (.br (.no 281543696187393) (.br (.br (.ok) .nil) (.br (.no 91343852333181432387749649580248005664936300544) .nil))) (.br (.br (.no 4722366482938364690433) (.br (.br (.ok) .nil) (.br (.no 22300745198530623141540441792052735758045184) .nil))) .nil)))))) = true := by decide +kernel
theorem p_511 : chk 5 3 (sstep (base 5) 1 1) (cons (base 5) 1 1 ++ posV 5) [tv (base 5) 1] (.br (.br (.br (.ok) .nil) (.br (.br (.ok) .nil) (.br (.br (.ok) .nil) .nil))) (.br (.br (.br (.ok) .nil) (.br (.br (.ok) .nil) (.br (.no 68736258048) .nil))) (.br (.br (.br (.ok) .nil) (.br (.br (.ok) .nil) (.br (.br (.ok) .nil) .nil))) (.br (.br (.no 281474976710657) (.br (.br (.ok) .nil) (.br (.no 68736258048) .nil))) (.br (.br (.no 281543696187393) (.br (.br (.ok) .nil) (.br (.br (.ok) .nil) .nil))) (.br (.br (.br (.ok) .nil) (.br (.br (.ok) .nil) (.br (.br (.ok) .nil) .nil))) .nil)))))) = true := by decide +kernel
theorem p_520 : chk 5 3 (sstep (base 5) 2 0) (cons (base 5) 2 0 ++ posV 5) [tv (base 5) 2] (.br (.no 1152921504606846977) (.br (.br (.br (.ok) .nil) (.br (.br (.ok) .nil) (.br (.no 68736258048) .nil))) (.br (.no 281543712964608) (.br (.br (.no 79228162514264337662263427073) (.br (.br (.ok) .nil) (.br (.no 68736258048) .nil))) (.br (.no 4723519404442971537408) (.br (.no 4723519685849245548544) .nil)))))) = true := by decide +kernel
theorem p_521 : chk 5 3 (sstep (base 5) 2 1) (cons (base 5) 2 1 ++ posV 5) [tv (base 5) 2] (.br (.no 1153202979583557633) (.br (.br (.br (.ok) .nil) (.br (.br (.ok) .nil) (.br (.no 68736258048) .nil))) (.br (.br (.br (.ok) .nil) (.br (.br (.ok) .nil) (.br (.br (.ok) .nil) .nil))) (.br (.br (.no 281474976710657) (.br (.br (.ok) .nil) (.br (.no 68736258048) .nil))) (.br (.br (.no 281543696187393) (.br (.br (.ok) .nil) (.br (.br (.ok) .nil) .nil))) (.br (.no 1153202979600334848) .nil)))))) = true := by decide +kernel
theorem p_522 : chk 5 3 (sstep (base 5) 2 2) (cons (base 5) 2 2 ++ posV 5) [tv (base 5) 2] (.br (.br (.br (.ok) .nil) (.br (.br (.ok) .nil) (.br (.br (.ok) .nil) .nil))) (.br (.br (.br (.ok) .nil) (.br (.br (.ok) .nil) (.br (.no 68736258048) .nil))) (.br (.br (.br (.ok) .nil) (.br (.br (.ok) .nil) (.br (.br (.ok) .nil) .nil))) (.br (.br (.no 281474976710657) (.br (.br (.ok) .nil) (.br (.no 68736258048) .nil))) (.br (.br (.no 281543696187393) (.br (.br (.ok) .nil) (.br (.br (.ok) .nil) .nil))) (.br (.br (.br (.ok) .nil) (.br (.br (.ok) .nil) (.br (.br (.ok) .nil) .nil))) .nil)))))) = true := by decide +kernel
theorem p_530 : chk 5 3 (sstep (base 5) 3 0) (cons (base 5) 3 0 ++ posV 5) [tv (base 5) 3] (.br (.no 1152921504606846977) (.br (.no 68719480832) (.br (.no 1153203048319811584) (.br (.br (.no 79228162514264337662263427073) (.br (.br (.ok) .nil) (.br (.no 68736258048) .nil))) (.br (.no 4723519404442971537408) (.br (.no 4723519685849245548544) .nil)))))) = true := by decide +kernel
theorem p_531 : chk 5 3 (sstep (base 5) 3 1) (cons (base 5) 3 1 ++ posV 5) [tv (base 5) 3] (.br (.no 4722366764344621924353) (.br (.no 19342813113834066795302912) (.br (.no 19342813113834066795302912) (.br (.br (.no 19347535480316936440512513) (.br (.br (.ok) .nil) (.br (.no 68736258048) .nil))) (.br (.br (.no 281543696187393) (.br (.br (.ok) .nil) (.br (.br (.ok) .nil) .nil))) (.br (.no 1153202979600334848) .nil)))))) = true := by decide +kernel
theorem p_532 : chk 5 3 (sstep (base 5) 3 2) (cons (base 5) 3 2 ++ posV 5) [tv (base 5) 3] (.br (.br (.no 1153203048319811585) (.br (.no 19342813113834135514779648) (.br (.br (.ok) .nil) .nil))) (.br (.no 19347535480316936440516608) (.br (.no 19347535480316936440516608) (.br (.br (.no 281474976710657) (.br (.br (.ok) .nil) (.br (.no 68736258048) .nil))) (.br (.br (.no 281543696187393) (.br (.br (.ok) .nil) (.br (.br (.ok) .nil) .nil))) (.br (.br (.br (.ok) .nil) (.br (.br (.ok) .nil) (.br (.br (.ok) .nil) .nil))) .nil)))))) = true := by decide +kernel
theorem p_533 : chk 5 3 (sstep (base 5) 3 3) (cons (base 5) 3 3 ++ posV 5) [tv (base 5) 3] (.br (.no 4097) (.br (.br (.no 19342813113834135514779649) (.br (.br (.ok) .nil) (.br (.no 68736258048) .nil))) (.br (.br (.no 4723519404442971537409) (.br (.br (.ok) .nil) (.br (.br (.ok) .nil) .nil))) (.br (.br (.no 281474976710657) (.br (.br (.ok) .nil) (.br (.no 68736258048) .nil))) (.br (.br (.no 281543696187393) (.br (.br (.ok) .nil) (.br (.br (.ok) .nil) .nil))) (.br (.br (.br (.ok) .nil) (.br (.br (.ok) .nil) (.br (.br (.ok) .nil) .nil))) .nil)))))) = true := by decide +kernel
theorem paths5 : ∀ q ∈ pairsN 5, path2 5 3 q := fa (path2_of p_500) (fa (path2_of p_510) (fa (path2_of p_511) (fa (path2_of p_520) (fa (path2_of p_521) (fa (path2_of p_522) (fa (path2_of p_530) (fa (path2_of p_531) (fa (path2_of p_532) (fa (path2_of p_533) fz)))))))))
theorem p_600 : chk 6 4 (sstep (base 6) 0 0) (cons (base 6) 0 0 ++ posV 6) [tv (base 6) 0] (.br (.br (.br (.br (.ok) .nil) (.br (.br (.ok) .nil) (.br (.br (.ok) .nil) .nil))) (.br (.br (.br (.ok) .nil) (.br (.br (.ok) .nil) (.br (.no 68736258048) .nil))) (.br (.br (.br (.ok) .nil) (.br (.br (.ok) .nil) (.br (.br (.ok) .nil) .nil))) (.br (.br (.no 281474976710657) (.br (.br (.ok) .nil) (.br (.no 68736258048) .nil))) (.br (.br (.no 281543696187393) (.br (.br (.ok) .nil) (.br (.br (.ok) .nil) .nil))) (.br (.br (.br (.ok) .nil) (.br (.br (.ok) .nil) (.br (.br (.ok) .nil) .nil))) .nil)))))) (.br (.br (.br (.br (.ok) .nil) (.br (.br (.ok) .nil) (.br (.br (.ok) .nil) .nil))) (.br (.br (.br (.ok) .nil) (.br (.br (.ok) .nil) (.br (.no 68736258048) .nil))) (.br (.no 281543712964608) (.br (.br (.no 19342813113834135514775553) (.br (.br (.ok) .nil) (.br (.no 68736258048) .nil))) (.br (.br (.no 281543696187393) (.br (.br (.ok) .nil) (.br (.no 1532495540865888858358347027169656719099056058624118784) .nil))) (.br (.br (.no 4722366482938364690433) (.br (.br (.ok) .nil) (.br (.no 374144419156711147060143317180091972436292983066624) .nil))) .nil)))))) (.br (.br (.br (.br (.ok) .nil) (.br (.br (.ok) .nil) (.br (.br (.ok) .nil) .nil))) (.br (.br (.br (.ok) .nil) (.br (.br (.ok) .nil) (.br (.no 68736258048) .nil))) (.br (.br (.br (.ok) .nil) (.br (.br (.ok) .nil) (.br (.br (.ok) .nil) .nil))) (.br (.br (.no 281474976710657) (.br (.br (.ok) .nil) (.br (.no 68736258048) .nil))) (.br (.br (.no 281543696187393) (.br (.br (.ok) .nil) (.br (.br (.ok) .nil) .nil))) (.br (.br (.br (.ok) .nil) (.br (.br (.ok) .nil) (.br (.br (.ok) .nil) .nil))) .nil)))))) (.br (.br (.no 1152921504606846977) (.br (.br (.br (.ok) .nil) (.br (.br (.ok) .nil) (.br (.no 68736258048) .nil))) (.br (.no 281543712964608) (.br (.br (.no 79228162514264337662263427073) (.br (.br (.ok) .nil) (.br (.no 68736258048) .nil))) (.br (.no 4723519404442971537408) (.br (.no 4723519685849245548544) .nil)))))) (.br (.br (.no 1153202979583557633) (.br (.br (.br (.ok) .nil) (.br (.br (.ok) .nil) (.br (.no 68736258048) .nil))) (.br (.br (.br (.ok) .nil) (.br (.br (.ok) .nil) (.br (.br (.ok) .nil) .nil))) (.br (.br (.no 281474976710657) (.br (.br (.ok) .nil) (.br (.no 68736258048) .nil))) (.br (.br (.no 281543696187393) (.br (.br (.ok) .nil) (.br (.br (.ok) .nil) .nil))) (.br (.no 1153202979600334848) .nil)))))) (.br (.br (.br (.br (.ok) .nil) (.br (.br (.ok) .nil) (.br (.br (.ok) .nil) .nil))) (.br (.br (.br (.ok) .nil) (.br (.br (.ok) .nil) (.br (.no 68736258048) .nil))) (.br (.br (.br (.ok) .nil) (.br (.br (.ok) .nil) (.br (.br (.ok) .nil) .nil))) (.br (.br (.no 281474976710657) (.br (.br (.ok) .nil) (.br (.no 68736258048) .nil))) (.br (.br (.no 281543696187393) (.br (.br (.ok) .nil) (.br (.br (.ok) .nil) .nil))) (.br (.br (.br (.ok) .nil) (.br (.br (.ok) .nil) (.br (.br (.ok) .nil) .nil))) .nil)))))) (.br (.br (.no 1152921504606846977) (.br (.no 68719480832) (.br (.no 1153203048319811584) (.br (.br (.no 79228162514264337662263427073) (.br (.br (.ok) .nil) (.br (.no 68736258048) .nil))) (.br (.no 4723519404442971537408) (.br (.no 4723519685849245548544) .nil)))))) (.br (.br (.no 4722366764344621924353) (.br (.no 19342813113834066795302912) (.br (.no 19342813113834066795302912) (.br (.br (.no 19347535480316936440512513) (.br (.br (.ok) .nil) (.br (.no 68736258048) .nil))) (.br (.br (.no 281543696187393) (.br (.br (.ok) .nil) (.br (.br (.ok) .nil) .nil))) (.br (.no 1153202979600334848) .nil)))))) (.br (.br (.br (.no 281543729745921) (.br (.no 19342813113834135514779648) (.br (.br (.ok) .nil) .nil))) (.br (.no 19347535480316936440516608) (.br (.no 19347535480316936440516608) (.br (.br (.no 281474976710657) (.br (.br (.ok) .nil) (.br (.no 68736258048) .nil))) (.br (.br (.no 281543696187393) (.br (.br (.ok) .nil) (.br (.br (.ok) .nil) .nil))) (.br (.br (.br (.ok) .nil) (.br (.br (.ok) .nil) (.br (.br (.ok) .nil) .nil))) .nil)))))) (.br (.br (.no 4097) (.br (.br (.no 19342813113834135514779649) (.br (.br (.ok) .nil) (.br (.no 68736258048) .nil))) (.br (.br (.no 4723519404442971537409) (.br (.br (.ok) .nil) (.br (.br (.ok) .nil) .nil))) (.br (.br (.no 281474976710657) (.br (.br (.ok) .nil) (.br (.no 68736258048) .nil))) (.br (.br (.no 281543696187393) (.br (.br (.ok) .nil) (.br (.br (.ok) .nil) .nil))) (.br (.br (.br (.ok) .nil) (.br (.br (.ok) .nil) (.br (.br (.ok) .nil) .nil))) .nil)))))) .nil)))))))))) = true := by decide +kernel
theorem p_610 : chk 6 4 (sstep (base 6) 1 0) (cons (base 6) 1 0 ++ posV 6) [tv (base 6) 1] (.br (.br (.br (.br (.ok) .nil) (.br (.br (.ok) .nil) (.br (.br (.ok) .nil) .nil))) (.br (.br (.br (.ok) .nil) (.br (.br (.ok) .nil) (.br (.no 68736258048) .nil))) (.br (.br (.br (.ok) .nil) (.br (.br (.ok) .nil) (.br (.no 91343852333181432466958464561337869399972909056) .nil))) (.br (.br (.no 281474976710657) (.br (.br (.ok) .nil) (.br (.no 68736258048) .nil))) (.br (.br (.no 281543696187393) (.br (.br (.ok) .nil) (.br (.no 324518553667871460030370287718400) .nil))) (.br (.br (.br (.ok) .nil) (.br (.br (.ok) .nil) (.br (.br (.ok) .nil) .nil))) .nil)))))) (.br (.br (.br (.br (.ok) .nil) (.br (.br (.ok) .nil) (.br (.br (.ok) .nil) .nil))) (.br (.br (.br (.ok) .nil) (.br (.br (.ok) .nil) (.br (.no 68736258048) .nil))) (.br (.no 281543712964608) (.br (.br (.no 281474976710657) (.br (.br (.ok) .nil) (.br (.no 68736258048) .nil))) (.br (.br (.no 281543696187393) (.br (.br (.ok) .nil) (.br (.no 5444517870735015420136360483252913311744) .nil))) (.br (.br (.no 4722366482938364690433) (.br (.br (.ok) .nil) (.br (.no 6277101735386680763835789423207666420825874848838286577664) .nil))) .nil)))))) (.br (.no 281543712964608) (.br (.br (.no 79228162514264619068520660993) (.br (.br (.br (.ok) .nil) (.br (.br (.ok) .nil) (.br (.no 68736258048) .nil))) (.br (.no 281543712964608) (.br (.br (.no 281474976710657) (.br (.br (.ok) .nil) (.br (.no 68736258048) .nil))) (.br (.no 4723519404442971537408) (.br (.no 4723519685849245548544) .nil)))))) (.br (.br (.no 1153202979583557633) (.br (.br (.br (.ok) .nil) (.br (.br (.ok) .nil) (.br (.no 68736258048) .nil))) (.br (.no 1532495540865888858358671624932130124609859871764905984) (.br (.br (.no 281474976710657) (.br (.br (.ok) .nil) (.br (.no 68736258048) .nil))) (.br (.no 1329552514338579021997073154665611264) (.br (.no 1153202979600334848) .nil)))))) (.br (.br (.no 19342813114115541772009473) (.br (.br (.br (.ok) .nil) (.br (.br (.ok) .nil) (.br (.no 68736258048) .nil))) (.br (.no 374144419156711147060222564680695831203579087028224) (.br (.br (.no 281474976710657) (.br (.br (.ok) .nil) (.br (.no 68736258048) .nil))) (.br (.br (.no 281543696187393) (.br (.br (.ok) .nil) (.br (.no 5445847098810028493801162145105811869696) .nil))) (.br (.br (.no 1329227995784915872903807128999821313) (.br (.br (.ok) .nil) (.br (.no 6277101735386680769282966398971378322928724177871723040768) .nil))) .nil)))))) (.br (.br (.no 324518553658426727064630997286913) (.br (.no 68719480832) (.br (.no 1153203048319811584) (.br (.br (.no 79228162514264337662263427073) (.br (.br (.ok) .nil) (.br (.no 68736258048) .nil))) (.br (.no 4723519404442971537408) (.br (.no 4723519685849245548544) .nil)))))) (.br (.br (.no 4722366764344621924353) (.br (.no 19342813113834066795302912) (.br (.no 1329552514357917112744424283112996864) (.br (.br (.no 19347535480316936440512513) (.br (.br (.ok) .nil) (.br (.no 68736258048) .nil))) (.br (.no 5445847098730800331286897526037291204608) (.br (.no 1153202979600334848) .nil)))))) (.br (.br (.no 79228162515417259098150797313) (.br (.no 19347535480316936440516608) (.br (.no 324597781825663357603619226517504) (.br (.br (.no 281474976710657) (.br (.br (.ok) .nil) (.br (.no 68736258048) .nil))) (.br (.br (.no 281543696187393) (.br (.br (.ok) .nil) (.br (.no 66918569149853111578170250252949596426739712) .nil))) (.br (.br (.no 5444517870735015415413993718977010860033) (.br (.br (.ok) .nil) (.br (.no 22311636892728163970360806332037892193390592) .nil))) .nil)))))) (.br (.br (.no 4097) (.br (.br (.no 19342813113834135514779649) (.br (.br (.ok) .nil) (.br (.no 68736258048) .nil))) (.br (.no 79247505327378171660356026368) (.br (.br (.no 281474976710657) (.br (.br (.ok) .nil) (.br (.no 68736258048) .nil))) (.br (.br (.no 281543696187393) (.br (.br (.ok) .nil) (.br (.no 105338002677265330542326704522994989651335781935347161908247531520) .nil))) (.br (.br (.no 1329227995784915872903807128999821313) (.br (.br (.ok) .nil) (.br (.no 25717285809879231089435230596434323645345649886559365700259840) .nil))) .nil)))))) .nil)))))))))) = true := by decide +kernel
theorem p_611 : chk 6 4 (sstep (base 6) 1 1) (cons (base 6) 1 1 ++ posV 6) [tv (base 6) 1] (.br (.br (.br (.br (.ok) .nil) (.br (.br (.ok) .nil) (.br (.br (.ok) .nil) .nil))) (.br (.br (.br (.ok) .nil) (.br (.br (.ok) .nil) (.br (.no 68736258048) .nil))) (.br (.br (.br (.ok) .nil) (.br (.br (.ok) .nil) (.br (.no 91343852333181432466958464561337869399972909056) .nil))) (.br (.br (.no 281474976710657) (.br (.br (.ok) .nil) (.br (.no 68736258048) .nil))) (.br (.br (.no 281543696187393) (.br (.br (.ok) .nil) (.br (.no 324518553667871460030370287718400) .nil))) (.br (.br (.br (.ok) .nil) (.br (.br (.ok) .nil) (.br (.br (.ok) .nil) .nil))) .nil)))))) (.br (.br (.br (.br (.ok) .nil) (.br (.br (.ok) .nil) (.br (.br (.ok) .nil) .nil))) (.br (.br (.br (.ok) .nil) (.br (.br (.ok) .nil) (.br (.no 68736258048) .nil))) (.br (.no 281543712964608) (.br (.br (.no 19342813113834135514775553) (.br (.br (.ok) .nil) (.br (.no 68736258048) .nil))) (.br (.br (.no 281543696187393) (.br (.br (.ok) .nil) (.br (.no 5444517870735015420136360483252913311744) .nil))) (.br (.br (.no 4722366482938364690433) (.br (.br (.ok) .nil) (.br (.no 6277101735386680763835789423207666420825874848838286577664) .nil))) .nil)))))) (.br (.br (.br (.br (.ok) .nil) (.br (.br (.ok) .nil) (.br (.br (.ok) .nil) .nil))) (.br (.br (.br (.ok) .nil) (.br (.br (.ok) .nil) (.br (.no 68736258048) .nil))) (.br (.br (.br (.ok) .nil) (.br (.br (.ok) .nil) (.br (.br (.ok) .nil) .nil))) (.br (.br (.no 281474976710657) (.br (.br (.ok) .nil) (.br (.no 68736258048) .nil))) (.br (.br (.no 281543696187393) (.br (.br (.ok) .nil) (.br (.br (.ok) .nil) .nil))) (.br (.br (.br (.ok) .nil) (.br (.br (.ok) .nil) (.br (.br (.ok) .nil) .nil))) .nil)))))) (.br (.br (.no 1152921504606846977) (.br (.br (.br (.ok) .nil) (.br (.br (.ok) .nil) (.br (.no 68736258048) .nil))) (.br (.no 281543712964608) (.br (.br (.no 281474976710657) (.br (.br (.ok) .nil) (.br (.no 68736258048) .nil))) (.br (.no 4723519404442971537408) (.br (.no 4723519685849245548544) .nil)))))) (.br (.br (.no 1153202979583557633) (.br (.br (.br (.ok) .nil) (.br (.br (.ok) .nil) (.br (.no 68736258048) .nil))) (.br (.br (.br (.ok) .nil) (.br (.br (.ok) .nil) (.br (.br (.ok) .nil) .nil))) (.br (.br (.no 281474976710657) (.br (.br (.ok) .nil) (.br (.no 68736258048) .nil))) (.br (.br (.no 281543696187393) (.br (.br (.ok) .nil) (.br (.br (.ok) .nil) .nil))) (.br (.no 1153202979600334848) .nil)))))) (.br (.br (.br (.br (.ok) .nil) (.br (.br (.ok) .nil) (.br (.br (.ok) .nil) .nil))) (.br (.br (.br (.ok) .nil) (.br (.br (.ok) .nil) (.br (.no 68736258048) .nil))) (.br (.br (.br (.ok) .nil) (.br (.br (.ok) .nil) (.br (.br (.ok) .nil) .nil))) (.br (.br (.no 281474976710657) (.br (.br (.ok) .nil) (.br (.no 68736258048) .nil))) (.br (.br (.no 281543696187393) (.br (.br (.ok) .nil) (.br (.br (.ok) .nil) .nil))) (.br (.br (.br (.ok) .nil) (.br (.br (.ok) .nil) (.br (.br (.ok) .nil) .nil))) .nil)))))) (.br (.br (.no 1152921504606846977) (.br (.no 68719480832) (.br (.no 1153203048319811584) (.br (.br (.no 79247510049744654529984462849) (.br (.br (.ok) .nil) (.br (.no 68736258048) .nil))) (.br (.no 4723519404442971537408) (.br (.no 4723519685849245548544) .nil)))))) (.br (.br (.no 4722366764344621924353) (.br (.no 19342813113834066795302912) (.br (.no 19342813113834066795302912) (.br (.br (.no 19347535480316936440512513) (.br (.br (.ok) .nil) (.br (.no 68736258048) .nil))) (.br (.br (.no 281543696187393) (.br (.br (.ok) .nil) (.br (.br (.ok) .nil) .nil))) (.br (.no 1153202979600334848) .nil)))))) (.br (.br (.br (.no 1153203048319811585) (.br (.no 19342813113834135514779648) (.br (.br (.ok) .nil) .nil))) (.br (.no 19347535480316936440516608) (.br (.no 19347535480316936440516608) (.br (.br (.no 281474976710657) (.br (.br (.ok) .nil) (.br (.no 68736258048) .nil))) (.br (.br (.no 281543696187393) (.br (.br (.ok) .nil) (.br (.br (.ok) .nil) .nil))) (.br (.br (.br (.ok) .nil) (.br (.br (.ok) .nil) (.br (.br (.ok) .nil) .nil))) .nil)))))) (.br (.br (.no 4097) (.br (.br (.no 4723519404374252060673) (.br (.br (.ok) .nil) (.br (.no 68736258048) .nil))) (.br (.br (.no 4723519404442971537409) (.br (.br (.ok) .nil) (.br (.br (.ok) .nil) .nil))) (.br (.br (.no 281474976710657) (.br (.br (.ok) .nil) (.br (.no 68736258048) .nil))) (.br (.br (.no 281543696187393) (.br (.br (.ok) .nil) (.br (.br (.ok) .nil) .nil))) (.br (.br (.br (.ok) .nil) (.br (.br (.ok) .nil) (.br (.br (.ok) .nil) .nil))) .nil)))))) .nil)))))))))) = true := by decide +kernel
theorem p_620 : chk 6 4 (sstep (base 6) 2 0) (cons (base 6) 2 0 ++ posV 6) [tv (base 6) 2] (.br (.no 1152921504606846977) (.br (.br (.br (.br (.ok) .nil) (.br (.br (.ok) .nil) (.br (.br (.ok) .nil) .nil))) (.br (.br (.br (.ok) .nil) (.br (.br (.ok) .nil) (.br (.no 68736258048) .nil))) (.br (.no 281543712964608) (.br (.br (.no 324597781820940991120818284003329) (.br (.br (.ok) .nil) (.br (.no 68736258048) .nil))) (.br (.br (.no 324597781820940991120749564526593) (.br (.br (.ok) .nil) (.br (.no 22300745198530623141540440639412706127908864) .nil))) (.br (.br (.no 79247505327378171729058725889) (.br (.br (.ok) .nil) (.br (.no 105312291668557186697918027683670432318895100124068515628563042304) .nil))) .nil)))))) (.br (.no 281543712964608) (.br (.br (.no 324518553658426727064630997286913) (.br (.br (.br (.ok) .nil) (.br (.br (.ok) .nil) (.br (.no 68736258048) .nil))) (.br (.no 281543712964608) (.br (.br (.no 79228162514264337662263427073) (.br (.br (.ok) .nil) (.br (.no 68736258048) .nil))) (.br (.no 4723519404442971537408) (.br (.no 324597781820942144042254188150784) .nil)))))) (.br (.no 19347535480598411417223168) (.br (.no 19347536633238509766836224) (.br (.br (.no 1329227995784915872904088535257055233) (.br (.no 68719480832) (.br (.no 1153203048319811584) (.br (.br (.no 79228162514264337662263427073) (.br (.br (.ok) .nil) (.br (.no 68736258048) .nil))) (.br (.no 4723519404442971537408) (.br (.no 4723519685849245548544) .nil)))))) (.br (.br (.no 4722366764344621924353) (.br (.no 19342813113834066795302912) (.br (.no 1329552514357917112744424283112996864) (.br (.br (.no 19347535480316936440512513) (.br (.br (.ok) .nil) (.br (.no 68736258048) .nil))) (.br (.no 5445847098730800331286897526037291204608) (.br (.no 1153202979600334848) .nil)))))) (.br (.br (.no 324518553658427879704660627423233) (.br (.no 19347535480316936440516608) (.br (.no 324597781825663357603619226517504) (.br (.br (.no 1766847064778384329583297592109077038725317642762872135155662199585767425) (.br (.br (.ok) .nil) (.br (.no 68736258048) .nil))) (.br (.no 431359146674410236714672241397759937876925111091936057223695055192064) (.br (.no 105312291668557186697918033129517855568249085114173420378920058880) .nil)))))) (.br (.br (.no 4097) (.br (.br (.no 19342813113834135514779649) (.br (.br (.ok) .nil) (.br (.no 68736258048) .nil))) (.br (.no 79247505327378171660356026368) (.br (.br (.no 281474976710657) (.br (.br (.ok) .nil) (.br (.no 68736258048) .nil))) (.br (.no 105312291668557186697918027684999984833233669700179701539331375104) (.br (.no 25711008708143844408671394807011195207092061795452495226470400) .nil)))))) .nil)))))))))) = true := by decide +kernel
theorem p_621 : chk 6 4 (sstep (base 6) 2 1) (cons (base 6) 2 1 ++ posV 6) [tv (base 6) 2] (.br (.no 1153202979583557633) (.br (.br (.br (.br (.ok) .nil) (.br (.br (.ok) .nil) (.br (.br (.ok) .nil) .nil))) (.br (.br (.br (.ok) .nil) (.br (.br (.ok) .nil) (.br (.no 68736258048) .nil))) (.br (.no 281543712964608) (.br (.br (.no 281474976710657) (.br (.br (.ok) .nil) (.br (.no 68736258048) .nil))) (.br (.br (.no 281543696187393) (.br (.br (.ok) .nil) (.br (.no 431359146674410236714672241392314090778194330108184640014594204504064) .nil))) (.br (.br (.no 4722366482938364690433) (.br (.br (.ok) .nil) (.br (.no 210624583337114373395836060811858735372805615659825188631180480512) .nil))) .nil)))))) (.br (.br (.br (.br (.ok) .nil) (.br (.br (.ok) .nil) (.br (.br (.ok) .nil) .nil))) (.br (.br (.br (.ok) .nil) (.br (.br (.ok) .nil) (.br (.no 68736258048) .nil))) (.br (.br (.br (.ok) .nil) (.br (.br (.ok) .nil) (.br (.br (.ok) .nil) .nil))) (.br (.br (.no 281474976710657) (.br (.br (.ok) .nil) (.br (.no 68736258048) .nil))) (.br (.br (.no 281543696187393) (.br (.br (.ok) .nil) (.br (.br (.ok) .nil) .nil))) (.br (.br (.br (.ok) .nil) (.br (.br (.ok) .nil) (.br (.br (.ok) .nil) .nil))) .nil)))))) (.br (.br (.no 1152921504606846977) (.br (.br (.br (.ok) .nil) (.br (.br (.ok) .nil) (.br (.no 68736258048) .nil))) (.br (.no 281543712964608) (.br (.br (.no 281474976710657) (.br (.br (.ok) .nil) (.br (.no 68736258048) .nil))) (.br (.no 4723519404442971537408) (.br (.no 4723519685849245548544) .nil)))))) (.br (.br (.no 1153202979583557633) (.br (.br (.br (.ok) .nil) (.br (.br (.ok) .nil) (.br (.no 68736258048) .nil))) (.br (.br (.br (.ok) .nil) (.br (.br (.ok) .nil) (.br (.br (.ok) .nil) .nil))) (.br (.br (.no 281474976710657) (.br (.br (.ok) .nil) (.br (.no 68736258048) .nil))) (.br (.br (.no 281543696187393) (.br (.br (.ok) .nil) (.br (.br (.ok) .nil) .nil))) (.br (.no 1153202979600334848) .nil)))))) (.br (.no 4723519404442971537408) (.br (.br (.no 1152921504606846977) (.br (.no 68719480832) (.br (.no 1153203048319811584) (.br (.br (.no 79247510049744654529984462849) (.br (.br (.ok) .nil) (.br (.no 68736258048) .nil))) (.br (.no 4723519404442971537408) (.br (.no 4723519685849245548544) .nil)))))) (.br (.br (.no 4722366764344621924353) (.br (.no 22300745198530623141540440639131231151198208) (.br (.no 22300745198530623141540440639131231151198208) (.br (.br (.no 19347535480316936440512513) (.br (.br (.ok) .nil) (.br (.no 68736258048) .nil))) (.br (.br (.no 19347535480598411417223169) (.br (.br (.ok) .nil) (.br (.br (.ok) .nil) .nil))) (.br (.no 1153202979600334848) .nil)))))) (.br (.br (.br (.no 281543729745921) (.br (.no 19342813113834135514779648) (.br (.br (.ok) .nil) .nil))) (.br (.no 19347535480316936440516608) (.br (.no 19347535480316936440516608) (.br (.br (.no 1766847064778384329583297500765224705543885255032570090387973471089983489) (.br (.br (.ok) .nil) (.br (.no 68736258048) .nil))) (.br (.br (.no 281543696187393) (.br (.br (.ok) .nil) (.br (.br (.ok) .nil) .nil))) (.br (.no 105312291668557186697918027684999984833233669700179701470628675584) .nil)))))) (.br (.br (.no 4097) (.br (.no 1329227995784920595270289929925562368) (.br (.no 1329227995784920595270289929925562368) (.br (.br (.no 431359146674410236714672241397759937876925111091936057223626335715329) (.br (.br (.ok) .nil) (.br (.no 68736258048) .nil))) (.br (.br (.no 281543696187393) (.br (.br (.ok) .nil) (.br (.br (.ok) .nil) .nil))) (.br (.no 25711008708143844408671393477783199422176188891645434946125824) .nil)))))) .nil)))))))))) = true := by decide +kernel
theorem p_622 : chk 6 4 (sstep (base 6) 2 2) (cons (base 6) 2 2 ++ posV 6) [tv (base 6) 2] (.br (.br (.br (.br (.ok) .nil) (.br (.br (.ok) .nil) (.br (.br (.ok) .nil) .nil))) (.br (.br (.br (.ok) .nil) (.br (.br (.ok) .nil) (.br (.no 68736258048) .nil))) (.br (.br (.br (.ok) .nil) (.br (.br (.ok) .nil) (.br (.br (.ok) .nil) .nil))) (.br (.br (.no 19347535480317005159989249) (.br (.br (.ok) .nil) (.br (.no 68736258048) .nil))) (.br (.br (.no 19347535480316936440512513) (.br (.br (.ok) .nil) (.br (.br (.ok) .nil) .nil))) (.br (.br (.no 4723519404442971537409) (.br (.br (.ok) .nil) (.br (.br (.ok) .nil) .nil))) .nil)))))) (.br (.br (.br (.br (.ok) .nil) (.br (.br (.ok) .nil) (.br (.br (.ok) .nil) .nil))) (.br (.br (.br (.ok) .nil) (.br (.br (.ok) .nil) (.br (.no 68736258048) .nil))) (.br (.no 281543712964608) (.br (.br (.no 19342813113834135514775553) (.br (.br (.ok) .nil) (.br (.no 68736258048) .nil))) (.br (.br (.no 281543696187393) (.br (.br (.ok) .nil) (.br (.no 105312291668557186697918027683670432318914442936029428190751494144) .nil))) (.br (.br (.no 4722366482938364690433) (.br (.br (.ok) .nil) (.br (.no 25711008708143844408671393477458601640359971419929059616886784) .nil))) .nil)))))) (.br (.br (.br (.br (.ok) .nil) (.br (.br (.ok) .nil) (.br (.br (.ok) .nil) .nil))) (.br (.br (.br (.ok) .nil) (.br (.br (.ok) .nil) (.br (.no 68736258048) .nil))) (.br (.br (.br (.ok) .nil) (.br (.br (.ok) .nil) (.br (.br (.ok) .nil) .nil))) (.br (.br (.no 281474976710657) (.br (.br (.ok) .nil) (.br (.no 68736258048) .nil))) (.br (.br (.no 281543696187393) (.br (.br (.ok) .nil) (.br (.br (.ok) .nil) .nil))) (.br (.br (.br (.ok) .nil) (.br (.br (.ok) .nil) (.br (.br (.ok) .nil) .nil))) .nil)))))) (.br (.br (.no 1152921504606846977) (.br (.br (.br (.ok) .nil) (.br (.br (.ok) .nil) (.br (.no 68736258048) .nil))) (.br (.no 281543712964608) (.br (.br (.no 281474976710657) (.br (.br (.ok) .nil) (.br (.no 68736258048) .nil))) (.br (.no 4723519404442971537408) (.br (.no 4723519685849245548544) .nil)))))) (.br (.br (.no 1153202979583557633) (.br (.br (.br (.ok) .nil) (.br (.br (.ok) .nil) (.br (.no 68736258048) .nil))) (.br (.br (.br (.ok) .nil) (.br (.br (.ok) .nil) (.br (.br (.ok) .nil) .nil))) (.br (.br (.no 281474976710657) (.br (.br (.ok) .nil) (.br (.no 68736258048) .nil))) (.br (.br (.no 281543696187393) (.br (.br (.ok) .nil) (.br (.br (.ok) .nil) .nil))) (.br (.no 1153202979600334848) .nil)))))) (.br (.br (.br (.br (.ok) .nil) (.br (.br (.ok) .nil) (.br (.br (.ok) .nil) .nil))) (.br (.br (.br (.ok) .nil) (.br (.br (.ok) .nil) (.br (.no 68736258048) .nil))) (.br (.br (.br (.ok) .nil) (.br (.br (.ok) .nil) (.br (.br (.ok) .nil) .nil))) (.br (.br (.no 281474976710657) (.br (.br (.ok) .nil) (.br (.no 68736258048) .nil))) (.br (.br (.no 281543696187393) (.br (.br (.ok) .nil) (.br (.br (.ok) .nil) .nil))) (.br (.br (.br (.ok) .nil) (.br (.br (.ok) .nil) (.br (.br (.ok) .nil) .nil))) .nil)))))) (.br (.br (.no 1152921504606846977) (.br (.no 68719480832) (.br (.no 1153203048319811584) (.br (.br (.no 79247510049744654529984462849) (.br (.br (.ok) .nil) (.br (.no 68736258048) .nil))) (.br (.no 4723519404442971537408) (.br (.no 4723519685849245548544) .nil)))))) (.br (.br (.no 4722366764344621924353) (.br (.no 19342813113834066795302912) (.br (.no 19342813113834066795302912) (.br (.br (.no 19347535480316936440512513) (.br (.br (.ok) .nil) (.br (.no 68736258048) .nil))) (.br (.br (.no 281543696187393) (.br (.br (.ok) .nil) (.br (.br (.ok) .nil) .nil))) (.br (.no 1153202979600334848) .nil)))))) (.br (.br (.br (.no 1153203048319811585) (.br (.no 19342813113834135514779648) (.br (.br (.ok) .nil) .nil))) (.br (.no 19347535480316936440516608) (.br (.no 19347535480316936440516608) (.br (.br (.no 281474976710657) (.br (.br (.ok) .nil) (.br (.no 68736258048) .nil))) (.br (.br (.no 281543696187393) (.br (.br (.ok) .nil) (.br (.br (.ok) .nil) .nil))) (.br (.br (.br (.ok) .nil) (.br (.br (.ok) .nil) (.br (.br (.ok) .nil) .nil))) .nil)))))) (.br (.br (.no 4097) (.br (.br (.no 324597820506567218788951874600962) (.br (.br (.ok) .nil) (.br (.no 68736258048) .nil))) (.br (.br (.no 4723519404442971537409) (.br (.br (.ok) .nil) (.br (.br (.ok) .nil) .nil))) (.br (.br (.no 281474976710657) (.br (.br (.ok) .nil) (.br (.no 68736258048) .nil))) (.br (.br (.no 281543696187393) (.br (.br (.ok) .nil) (.br (.br (.ok) .nil) .nil))) (.br (.br (.br (.ok) .nil) (.br (.br (.ok) .nil) (.br (.br (.ok) .nil) .nil))) .nil)))))) .nil)))))))))) = true := by decide +kernel
theorem p_630 : chk 6 4 (sstep (base 6) 3 0) (cons (base 6) 3 0 ++ posV 6) [tv (base 6) 3] (.br (.no 4722366482869645213697) (.br (.no 68719480832) (.br (.no 1153203048319811584) (.br (.br (.no 1329227995784915872904088535257055233) (.br (.br (.br (.ok) .nil) (.br (.br (.ok) .nil) (.br (.no 374144441462900863461501474126500719399257247846400) .nil))) (.br (.no 281543712964608) (.br (.br (.no 281474976710657) (.br (.br (.ok) .nil) (.br (.no 68736258048) .nil))) (.br (.no 4723519404442971537408) (.br (.no 1329552514338574300783793195901255680) .nil)))))) (.br (.no 19347535480598411417223168) (.br (.no 79228167237783742036515487744) (.br (.br (.no 5444517870735015415413994000383268093953) (.br (.no 68719480832) (.br (.no 1153203048319811584) (.br (.br (.no 79247510049744654529984462849) (.br (.br (.ok) .nil) (.br (.no 68736258048) .nil))) (.br (.no 4723519404442971537408) (.br (.no 5445847098730800331286897807443565215744) .nil)))))) (.br (.no 324597781820942144042254171373568) (.br (.no 324597801163754105236291336536064) (.br (.no 19347535480317005159989249) .nil)))))))))) = true := by decide +kernel
theorem p_631 : chk 6 4 (sstep (base 6) 3 1) (cons (base 6) 3 1 ++ posV 6) [tv (base 6) 3] (.br (.no 19342814266755571402145793) (.br (.no 79228162514264337593543954432) (.br (.no 79228162514264337593543954432) (.br (.br (.no 79247505327378171660339249153) (.br (.br (.br (.ok) .nil) (.br (.br (.ok) .nil) (.br (.no 22306189716401358156951132266367338516844544) .nil))) (.br (.no 281543712964608) (.br (.br (.no 281474976710657) (.br (.br (.ok) .nil) (.br (.no 68736258048) .nil))) (.br (.no 4723519404442971537408) (.br (.no 4723519685849245548544) .nil)))))) (.br (.br (.no 1153202979583557633) (.br (.br (.br (.ok) .nil) (.br (.br (.ok) .nil) (.br (.no 22306189716725876710609558993150494537420800) .nil))) (.br (.br (.br (.ok) .nil) (.br (.br (.ok) .nil) (.br (.br (.ok) .nil) .nil))) (.br (.br (.no 281474976710657) (.br (.br (.ok) .nil) (.br (.no 68736258048) .nil))) (.br (.br (.no 281543696187393) (.br (.br (.ok) .nil) (.br (.br (.ok) .nil) .nil))) (.br (.no 1153202979600334848) .nil)))))) (.br (.no 4723519404442971537408) (.br (.br (.no 1152921504606846977) (.br (.no 68719480832) (.br (.no 1153203048319811584) (.br (.br (.no 79247510049744654529984462849) (.br (.br (.ok) .nil) (.br (.no 68736258048) .nil))) (.br (.no 4723519404442971537408) (.br (.no 4723519685849245548544) .nil)))))) (.br (.br (.no 4722366764344621924353) (.br (.no 91343852333181432387730306767134171598141001728) (.br (.no 91343852333181432387730306767134171598141001728) (.br (.br (.no 19347535480316936440512513) (.br (.br (.ok) .nil) (.br (.no 68736258048) .nil))) (.br (.br (.no 19347535480598411417223169) (.br (.br (.ok) .nil) (.br (.br (.ok) .nil) .nil))) (.br (.no 1153202979600334848) .nil)))))) (.br (.no 79247505327378453135315959808) (.br (.no 79247510049744654598703939584) .nil)))))))))) = true := by decide +kernel
theorem p_632 : chk 6 4 (sstep (base 6) 3 2) (cons (base 6) 3 2 ++ posV 6) [tv (base 6) 3] (.br (.br (.no 4722366764413358178305) (.br (.no 324518553658426727064631014064128) (.br (.br (.br (.ok) .nil) (.br (.br (.ok) .nil) (.br (.br (.ok) .nil) .nil))) (.br (.no 1329227995784915874056728564903972864) (.br (.br (.no 79247510049744654529984462849) (.br (.br (.ok) .nil) (.br (.br (.ok) .nil) .nil))) (.br (.no 19347535480316936457289728) .nil)))))) (.br (.no 79247505327378171660339253248) (.br (.no 79247505327378171660339253248) (.br (.br (.no 1152921504606846977) (.br (.br (.br (.ok) .nil) (.br (.br (.ok) .nil) (.br (.no 68736258048) .nil))) (.br (.no 281543712964608) (.br (.br (.no 79228162514264337662263427073) (.br (.br (.ok) .nil) (.br (.no 68736258048) .nil))) (.br (.no 4723519404442971537408) (.br (.no 4723519685849245548544) .nil)))))) (.br (.br (.no 1153202979583557633) (.br (.br (.br (.ok) .nil) (.br (.br (.ok) .nil) (.br (.no 68736258048) .nil))) (.br (.br (.br (.ok) .nil) (.br (.br (.ok) .nil) (.br (.br (.ok) .nil) .nil))) (.br (.br (.no 281474976710657) (.br (.br (.ok) .nil) (.br (.no 68736258048) .nil))) (.br (.br (.no 281543696187393) (.br (.br (.ok) .nil) (.br (.br (.ok) .nil) .nil))) (.br (.no 1153202979600334848) .nil)))))) (.br (.br (.br (.br (.ok) .nil) (.br (.br (.ok) .nil) (.br (.br (.ok) .nil) .nil))) (.br (.br (.br (.ok) .nil) (.br (.br (.ok) .nil) (.br (.no 68736258048) .nil))) (.br (.br (.br (.ok) .nil) (.br (.br (.ok) .nil) (.br (.br (.ok) .nil) .nil))) (.br (.br (.no 281474976710657) (.br (.br (.ok) .nil) (.br (.no 68736258048) .nil))) (.br (.br (.no 281543696187393) (.br (.br (.ok) .nil) (.br (.br (.ok) .nil) .nil))) (.br (.br (.br (.ok) .nil) (.br (.br (.ok) .nil) (.br (.br (.ok) .nil) .nil))) .nil)))))) (.br (.br (.no 1152921504606846977) (.br (.no 68719480832) (.br (.no 1153203048319811584) (.br (.br (.no 79247510049744654529984462849) (.br (.br (.ok) .nil) (.br (.no 68736258048) .nil))) (.br (.no 4723519404442971537408) (.br (.no 4723519685849245548544) .nil)))))) (.br (.br (.no 4722366764344621924353) (.br (.no 19342813113834066795302912) (.br (.no 19342813113834066795302912) (.br (.br (.no 19347535480316936440512513) (.br (.br (.ok) .nil) (.br (.no 324518553663149093266025665794048) .nil))) (.br (.br (.no 19347535480598411417223169) (.br (.br (.ok) .nil) (.br (.br (.ok) .nil) .nil))) (.br (.no 1153202979600334848) .nil)))))) (.br (.br (.br (.no 1153203048319811585) (.br (.no 19342813113834135514779648) (.br (.br (.ok) .nil) .nil))) (.br (.no 19347535480316936440516608) (.br (.no 19347535480316936440516608) (.br (.br (.no 281474976710657) (.br (.br (.ok) .nil) (.br (.no 68736258048) .nil))) (.br (.br (.no 281543696187393) (.br (.br (.ok) .nil) (.br (.br (.ok) .nil) .nil))) (.br (.br (.br (.ok) .nil) (.br (.br (.ok) .nil) (.br (.br (.ok) .nil) .nil))) .nil)))))) (.br (.no 19347535480317005159989248) .nil)))))))))) = true := by decide +kernel
theorem p_633 : chk 6 4 (sstep (base 6) 3 3) (cons (base 6) 3 3 ++ posV 6) [tv (base 6) 3] (.br (.no 4097) (.br (.br (.no 4723519404374252060673) (.br (.br (.br (.ok) .nil) (.br (.br (.ok) .nil) (.br (.no 22300745198530623160878532539404001627607040) .nil))) (.br (.no 281543712964608) (.br (.br (.no 281474976710657) (.br (.br (.ok) .nil) (.br (.no 5445847098730800331286897526037291208704) .nil))) (.br (.br (.no 281543696187393) (.br (.br (.ok) .nil) (.br (.no 22306189716401358195650925593765487300321280) .nil))) (.br (.br (.no 4722366482938364690433) (.br (.br (.ok) .nil) (.br (.no 6277101735386680769280307293942681836239868567746577960960) .nil))) .nil)))))) (.br (.br (.no 4723519404442971537409) (.br (.br (.br (.ok) .nil) (.br (.br (.ok) .nil) (.br (.no 68736258048) .nil))) (.br (.br (.br (.ok) .nil) (.br (.br (.ok) .nil) (.br (.br (.ok) .nil) .nil))) (.br (.br (.no 281474976710657) (.br (.br (.ok) .nil) (.br (.no 5445847098810028493801161863630835159040) .nil))) (.br (.br (.no 281543696187393) (.br (.br (.ok) .nil) (.br (.br (.ok) .nil) .nil))) (.br (.br (.br (.ok) .nil) (.br (.br (.ok) .nil) (.br (.br (.ok) .nil) .nil))) .nil)))))) (.br (.br (.no 1152921504606846977) (.br (.br (.br (.ok) .nil) (.br (.br (.ok) .nil) (.br (.no 68736258048) .nil))) (.br (.no 281543712964608) (.br (.br (.no 281474976710657) (.br (.br (.ok) .nil) (.br (.no 68736258048) .nil))) (.br (.no 4723519404442971537408) (.br (.no 4723519685849245548544) .nil)))))) (.br (.br (.no 1153202979583557633) (.br (.br (.br (.ok) .nil) (.br (.br (.ok) .nil) (.br (.no 68736258048) .nil))) (.br (.br (.br (.ok) .nil) (.br (.br (.ok) .nil) (.br (.br (.ok) .nil) .nil))) (.br (.br (.no 281474976710657) (.br (.br (.ok) .nil) (.br (.no 68736258048) .nil))) (.br (.br (.no 281543696187393) (.br (.br (.ok) .nil) (.br (.br (.ok) .nil) .nil))) (.br (.no 1153202979600334848) .nil)))))) (.br (.br (.br (.br (.ok) .nil) (.br (.br (.ok) .nil) (.br (.br (.ok) .nil) .nil))) (.br (.br (.br (.ok) .nil) (.br (.br (.ok) .nil) (.br (.no 68736258048) .nil))) (.br (.br (.br (.ok) .nil) (.br (.br (.ok) .nil) (.br (.br (.ok) .nil) .nil))) (.br (.br (.no 281474976710657) (.br (.br (.ok) .nil) (.br (.no 68736258048) .nil))) (.br (.br (.no 281543696187393) (.br (.br (.ok) .nil) (.br (.br (.ok) .nil) .nil))) (.br (.br (.br (.ok) .nil) (.br (.br (.ok) .nil) (.br (.br (.ok) .nil) .nil))) .nil)))))) (.br (.br (.no 1152921504606846977) (.br (.no 68719480832) (.br (.no 1153203048319811584) (.br (.br (.no 79247510049744654529984462849) (.br (.br (.ok) .nil) (.br (.no 68736258048) .nil))) (.br (.no 4723519404442971537408) (.br (.no 4723519685849245548544) .nil)))))) (.br (.br (.no 4722366764344621924353) (.br (.no 19342813113834066795302912) (.br (.no 19342813113834066795302912) (.br (.br (.no 19347535480316936440512513) (.br (.br (.ok) .nil) (.br (.no 68736258048) .nil))) (.br (.br (.no 19347535480598411417223169) (.br (.br (.ok) .nil) (.br (.br (.ok) .nil) .nil))) (.br (.no 1153202979600334848) .nil)))))) (.br (.br (.br (.no 324597781825665663728103433699330) (.br (.no 19342813113834135514779648) (.br (.br (.ok) .nil) .nil))) (.br (.no 19347535480316936440516608) (.br (.no 19347535480316936440516608) (.br (.br (.no 281474976710657) (.br (.br (.ok) .nil) (.br (.no 68736258048) .nil))) (.br (.br (.no 281543696187393) (.br (.br (.ok) .nil) (.br (.br (.ok) .nil) .nil))) (.br (.br (.br (.ok) .nil) (.br (.br (.ok) .nil) (.br (.br (.ok) .nil) .nil))) .nil)))))) (.br (.br (.no 4097) (.br (.br (.no 4723519404374252060673) (.br (.br (.ok) .nil) (.br (.no 68736258048) .nil))) (.br (.br (.no 4723519404442971537409) (.br (.br (.ok) .nil) (.br (.br (.ok) .nil) .nil))) (.br (.br (.no 281474976710657) (.br (.br (.ok) .nil) (.br (.no 68736258048) .nil))) (.br (.br (.no 281543696187393) (.br (.br (.ok) .nil) (.br (.br (.ok) .nil) .nil))) (.br (.br (.br (.ok) .nil) (.br (.br (.ok) .nil) (.br (.br (.ok) .nil) .nil))) .nil)))))) .nil)))))))))) = true := by decide +kernel
theorem p_640 : chk 6 4 (sstep (base 6) 4 0) (cons (base 6) 4 0 ++ posV 6) [tv (base 6) 4] (.br (.no 4722366482869645213697) (.br (.no 68719480832) (.br (.no 4723519685917965025280) (.br (.no 4722366482869661990912) (.br (.no 79247510049744936004961173504) (.br (.no 79247510050897576103310786560) (.br (.br (.no 5444517870735015415413994000383268093953) (.br (.no 68719480832) (.br (.no 6277101735386680763835789423207666416102355725939028000768) (.br (.br (.no 374235763009044328492531066824948701037583667298305) (.br (.br (.ok) .nil) (.br (.no 68736258048) .nil))) (.br (.no 4723519404442971537408) (.br (.no 22306189716401358156951133419570249397698560) .nil)))))) (.br (.no 324597781820942144042254171373568) (.br (.no 324597801163754105236291336536064) (.br (.no 19347535480317005159989249) .nil)))))))))) = true := by decide +kernel
theorem p_641 : chk 6 4 (sstep (base 6) 4 1) (cons (base 6) 4 1 ++ posV 6) [tv (base 6) 4] (.br (.no 79228162515417259098150797313) (.br (.no 79228162514264337593543954432) (.br (.no 79228162514264337593543954432) (.br (.no 4722366482869661990912) (.br (.no 4722366482869661990912) (.br (.no 19347536633238509766836224) (.br (.br (.no 1152921504606846977) (.br (.no 68719480832) (.br (.no 1153203048319811584) (.br (.br (.no 79247510049744654529984462849) (.br (.br (.ok) .nil) (.br (.no 1532869685285045569505407170467484552071771109634084864) .nil))) (.br (.no 4723519404442971537408) (.br (.no 4723519685849245548544) .nil)))))) (.br (.br (.no 4722366764344621924353) (.br (.no 91366158522897833745887253177034055998293151744) (.br (.no 91343852333181432387730306767134171598141001728) (.br (.br (.no 19347535480316936440512513) (.br (.br (.ok) .nil) (.br (.no 68736258048) .nil))) (.br (.br (.no 281543696187393) (.br (.br (.ok) .nil) (.br (.br (.ok) .nil) .nil))) (.br (.no 1153202979600334848) .nil)))))) (.br (.no 79247505327378453135315959808) (.br (.no 79247510049744654598703939584) .nil)))))))))) = true := by decide +kernel
theorem p_642 : chk 6 4 (sstep (base 6) 4 2) (cons (base 6) 4 2 ++ posV 6) [tv (base 6) 4] (.br (.br (.no 4723519685917965025281) (.br (.no 1153202979600338944) (.br (.no 324518553658426726783156020580352) (.br (.no 4723519404374268837888) (.br (.br (.no 19347535480317005159989249) (.br (.br (.ok) .nil) (.br (.br (.ok) .nil) .nil))) (.br (.no 19347535480316936457289728) .nil)))))) (.br (.no 324518573001239840617222815879168) (.br (.no 324518573001239840617222815879168) (.br (.no 1329227995784915872903807060297121792) (.br (.no 1329227995784915872903807060297121792) (.br (.no 324518553658426726783156037353472) (.br (.br (.no 1152921504606846977) (.br (.no 68719480832) (.br (.no 1153203048319811584) (.br (.br (.no 79247510049744654529984462849) (.br (.br (.ok) .nil) (.br (.no 68736258048) .nil))) (.br (.no 4723519404442971537408) (.br (.no 4723519685849245548544) .nil)))))) (.br (.br (.no 4722366764344621924353) (.br (.no 22306189716401358156951132266367269797367808) (.br (.no 22306189716401358156951132266367269797367808) (.br (.br (.no 19347535480316936440512513) (.br (.br (.ok) .nil) (.br (.no 324518553663149093266025665794048) .nil))) (.br (.br (.no 281543696187393) (.br (.br (.ok) .nil) (.br (.br (.ok) .nil) .nil))) (.br (.no 1153202979600334848) .nil)))))) (.br (.br (.br (.no 1153203048319811585) (.br (.no 19342813113834135514779648) (.br (.br (.ok) .nil) .nil))) (.br (.no 5445847098730819674100011360035367030784) (.br (.no 19347535480316936440516608) (.br (.br (.no 281474976710657) (.br (.br (.ok) .nil) (.br (.no 374235763009045657720526832393286124527707523911680) .nil))) (.br (.br (.no 281543696187393) (.br (.br (.ok) .nil) (.br (.br (.ok) .nil) .nil))) (.br (.br (.br (.ok) .nil) (.br (.br (.ok) .nil) (.br (.br (.ok) .nil) .nil))) .nil)))))) (.br (.no 19347535480317005159989248) .nil)))))))))) = true := by decide +kernel
theorem p_643 : chk 6 4 (sstep (base 6) 4 3) (cons (base 6) 4 3 ++ posV 6) [tv (base 6) 4] (.br (.no 4097) (.br (.br (.no 19347536633238441047359489) (.br (.no 5444517870735034758227107552975103463424) (.br (.no 5444517870735034758227107834518782873600) (.br (.no 22300745198530702369698232536985955066707968) (.br (.br (.no 91343852333181756906283960471494471953235836929) (.br (.br (.ok) .nil) (.br (.no 22306189716401358195650925593765487300321280) .nil))) (.br (.br (.no 4722366482938364690433) (.br (.br (.ok) .nil) (.br (.no 25711008708143844408671393477458601640359971419929059616886784) .nil))) .nil)))))) (.br (.br (.no 19347536633238509766836225) (.br (.no 324597820506567219070358131838976) (.br (.no 1329552593586079627008761876640174080) (.br (.no 22300745198530702369698232536986023769407488) (.br (.no 22300745198530702369698232536985955066707968) (.br (.br (.no 22300745198530702369702954903468824695144449) (.br (.br (.ok) .nil) (.br (.br (.ok) .nil) .nil))) .nil)))))) (.br (.no 1329552514338574299630590216317698048) (.br (.no 1329552514338574299630590216317698048) (.br (.no 324597781820940991120749581303808) (.br (.br (.no 1152921504606846977) (.br (.no 68719480832) (.br (.no 1153203048319811584) (.br (.br (.no 79247510049744654529984462849) (.br (.br (.ok) .nil) (.br (.no 68736258048) .nil))) (.br (.no 4723519404442971537408) (.br (.no 4723519685849245548544) .nil)))))) (.br (.br (.no 4722366764344621924353) (.br (.no 19342813113834066795302912) (.br (.no 19342813113834066795302912) (.br (.br (.no 19347535480316936440512513) (.br (.br (.ok) .nil) (.br (.no 68736258048) .nil))) (.br (.br (.no 19347535480598411417223169) (.br (.br (.ok) .nil) (.br (.br (.ok) .nil) .nil))) (.br (.no 1153202979600334848) .nil)))))) (.br (.br (.br (.no 5445847423249353994437143713498861142017) (.br (.no 19342813113834135514779648) (.br (.br (.ok) .nil) .nil))) (.br (.no 19347535480316936440516608) (.br (.no 19347535480316936440516608) (.br (.br (.no 281474976710657) (.br (.br (.ok) .nil) (.br (.no 68736258048) .nil))) (.br (.br (.no 281543696187393) (.br (.br (.ok) .nil) (.br (.br (.ok) .nil) .nil))) (.br (.br (.br (.ok) .nil) (.br (.br (.ok) .nil) (.br (.br (.ok) .nil) .nil))) .nil)))))) (.br (.br (.no 4097) (.br (.br (.no 44606936244159977102745538862499767592681474) (.br (.br (.ok) .nil) (.br (.no 68736258048) .nil))) (.br (.br (.no 44606936244159977102745538862499905031634946) (.br (.br (.ok) .nil) (.br (.br (.ok) .nil) .nil))) (.br (.br (.no 281474976710657) (.br (.br (.ok) .nil) (.br (.no 68736258048) .nil))) (.br (.br (.no 281543696187393) (.br (.br (.ok) .nil) (.br (.br (.ok) .nil) .nil))) (.br (.br (.br (.ok) .nil) (.br (.br (.ok) .nil) (.br (.br (.ok) .nil) .nil))) .nil)))))) .nil)))))))))) = true := by decide +kernel
theorem p_644 : chk 6 4 (sstep (base 6) 4 4) (cons (base 6) 4 4 ++ posV 6) [tv (base 6) 4] (.br (.no 4097) (.br (.no 281474976714752) (.br (.no 281474976714752) (.br (.br (.no 1152921504606846977) (.br (.br (.no 22306189716401358156951132266367338516840449) (.br (.br (.ok) .nil) (.br (.no 68736258048) .nil))) (.br (.no 281543712964608) (.br (.br (.no 281474976710657) (.br (.br (.ok) .nil) (.br (.no 68736258048) .nil))) (.br (.no 4723519404442971537408) (.br (.no 4723519685849245548544) .nil)))))) (.br (.br (.no 1153202979583557633) (.br (.no 5445847098730800331286897525968571731968) (.br (.no 22300745198530623141540440639412706127908864) (.br (.br (.no 281474976710657) (.br (.br (.ok) .nil) (.br (.no 374235763009044328492531047477413220720647243567104) .nil))) (.br (.br (.no 281543696187393) (.br (.br (.ok) .nil) (.br (.br (.ok) .nil) .nil))) (.br (.no 1153202979600334848) .nil)))))) (.br (.br (.br (.no 324597781820940991120818300780545) (.br (.br (.ok) .nil) (.br (.br (.ok) .nil) .nil))) (.br (.no 1329552514338579021997073085946138624) (.br (.no 1329552514338579021997073085946138624) (.br (.br (.no 281474976710657) (.br (.br (.ok) .nil) (.br (.no 68736258048) .nil))) (.br (.br (.no 281543696187393) (.br (.br (.ok) .nil) (.br (.br (.ok) .nil) .nil))) (.br (.br (.br (.ok) .nil) (.br (.br (.ok) .nil) (.br (.br (.ok) .nil) .nil))) .nil)))))) (.br (.br (.no 1152921504606846977) (.br (.no 68719480832) (.br (.no 1153203048319811584) (.br (.br (.no 79247510049744654529984462849) (.br (.br (.ok) .nil) (.br (.no 68736258048) .nil))) (.br (.no 4723519404442971537408) (.br (.no 4723519685849245548544) .nil)))))) (.br (.br (.no 4722366764344621924353) (.br (.no 19342813113834066795302912) (.br (.no 19342813113834066795302912) (.br (.br (.no 19347535480316936440512513) (.br (.br (.ok) .nil) (.br (.no 68736258048) .nil))) (.br (.br (.no 19347535480598411417223169) (.br (.br (.ok) .nil) (.br (.br (.ok) .nil) .nil))) (.br (.no 1153202979600334848) .nil)))))) (.br (.br (.br (.no 1329552514338574300783511858380275714) (.br (.no 19342813113834135514779648) (.br (.br (.ok) .nil) .nil))) (.br (.no 19347535480316936440516608) (.br (.no 19347535480316936440516608) (.br (.br (.no 281474976710657) (.br (.br (.ok) .nil) (.br (.no 68736258048) .nil))) (.br (.br (.no 281543696187393) (.br (.br (.ok) .nil) (.br (.br (.ok) .nil) .nil))) (.br (.br (.br (.ok) .nil) (.br (.br (.ok) .nil) (.br (.br (.ok) .nil) .nil))) .nil)))))) (.br (.br (.no 4097) (.br (.br (.no 5445847098730819674102317203044580720642) (.br (.br (.ok) .nil) (.br (.no 68736258048) .nil))) (.br (.br (.no 5445847098730819674102317203182019674114) (.br (.br (.ok) .nil) (.br (.br (.ok) .nil) .nil))) (.br (.br (.no 281474976710657) (.br (.br (.ok) .nil) (.br (.no 68736258048) .nil))) (.br (.br (.no 281543696187393) (.br (.br (.ok) .nil) (.br (.br (.ok) .nil) .nil))) (.br (.br (.br (.ok) .nil) (.br (.br (.ok) .nil) (.br (.br (.ok) .nil) .nil))) .nil)))))) .nil)))))))))) = true := by decide +kernel
theorem paths6 : ∀ q ∈ pairsN 6, path2 6 4 q := fa (path2_of p_600) (fa (path2_of p_610) (fa (path2_of p_611) (fa (path2_of p_620) (fa (path2_of p_621) (fa (path2_of p_622) (fa (path2_of p_630) (fa (path2_of p_631) (fa (path2_of p_632) (fa (path2_of p_633) (fa (path2_of p_640) (fa (path2_of p_641) (fa (path2_of p_642) (fa (path2_of p_643) (fa (path2_of p_644) fz))))))))))))))
end Mine
end

/-! Pg -/
section
set_option Elab.async false
set_option maxRecDepth 100000
set_option maxHeartbeats 1000000
/-! the plain law -/
namespace Mine
theorem loopC_of {k : Nat → Nat → Ct → Bool} : ∀ (ps : List (Nat × Nat)), (∀ a lo, (a, lo) ∈ ps → ∃ c, k a lo c = true) → ∃ ct, (ct = .nil ∨ ∃ c r, ct = .br c r) ∧ loopC k ps ct = true
  | [], _ => ⟨.nil, .inl rfl, rfl⟩
  | (a, lo) :: ps, h => by
    obtain ⟨c, hc⟩ := h a lo List.mem_cons_self
    obtain ⟨r, _, hr⟩ := loopC_of ps fun a' lo' hm => h a' lo' (List.mem_cons_of_mem _ hm)
    exact ⟨.br c r, .inr ⟨c, r, rfl⟩, by simp only [loopC, hc, hr, Bool.and_self]⟩
theorem base_len (n : Nat) : (base n).length = n := by simp [base]
theorem path_top {n f : Nat} (h2 : 2 ≤ n) (h : ∀ q ∈ pairsN n, path2 n f q) : ∃ ct, chk n (f + 1) (base n) (posV n) [] ct = true := by
  obtain ⟨ct, hs, hc⟩ := loopC_of (k := fun a lo c => chk n f (sstep (base n) a lo) (cons (base n) a lo ++ posV n) (tv (base n) a :: []) c) (pairsN n) fun a lo hm => h (a, lo) hm
  refine ⟨ct, ?_⟩
  have hb : Nat.blt 1 (base n).length = true := by rw [base_len]; exact Nat.ble_eq_true_of_le h2
  have hc' : loopC (fun a lo c => chk n f (sstep (base n) a lo) (cons (base n) a lo ++ posV n) (tv (base n) a :: []) c) (pairsN (base n).length) ct = true := by rw [base_len]; exact hc
  rcases hs with rfl | ⟨c, r, rfl⟩
  · simp only [chk, hb, hc', Bool.and_self]
  · simp only [chk, hb, hc', Bool.and_self]
theorem sum_ev {w : List Nat} : ∀ (T : List (List Nat)), (T.map fun t => ev t w).sum = ev (vsum T) w
  | [] => by simp [vsum, ev_nil]
  | t :: T => by simp only [List.map_cons, List.sum_cons, vsum, ev_vadd, sum_ev T]
theorem is01_le : ∀ {t : List Nat} (k : Nat), is01 t = true → t.getD k 0 ≤ 1
  | [], k, _ => by simp
  | x :: a, 0, h => by
    simp only [is01, Bool.and_eq_true] at h
    simpa using Nat.le_of_ble_eq_true h.1
  | x :: a, k + 1, h => by
    simp only [is01, Bool.and_eq_true] at h
    simpa using is01_le k h.2
theorem cnt_sum {q c : Nat} (hc : 1 ≤ c) {p : Nat} : ∀ (js T : List (List Nat)), js.map (List.count q) = T.map (fun x => x.getD p 0 * c) → T.all is01 = true → cntF q js = (vsum T).getD p 0
  | [], [], _, _ => by simp [cntF, vsum]
  | [], _ :: _, h, _ => by simp at h
  | _ :: _, [], h, _ => by simp at h
  | j :: js, t :: T, h, h01 => by
    simp only [List.map_cons, List.cons.injEq] at h
    simp only [List.all_cons, Bool.and_eq_true] at h01
    have ih := cnt_sum hc js T h.2 h01.2
    have hk := is01_le p h01.1
    unfold cntF at *
    rw [List.filter_cons, vsum, vadd_getD, ← ih]
    by_cases hm : q ∈ j
    · have h1 : 0 < List.count q j := List.count_pos_iff.mpr hm
      have : t.getD p 0 = 1 := by
        rcases Nat.lt_or_ge (t.getD p 0) 1 with h2 | h2
        · have : t.getD p 0 = 0 := by (first | lia | omega)
          rw [h.1, this] at h1
          simp at h1
        · (first | lia | omega)
      rw [if_pos (by simpa using hm), List.length_cons, this]
      (first | lia | omega)
    · have h1 : List.count q j = 0 := List.count_eq_zero.mpr hm
      have : t.getD p 0 = 0 := by
        rw [h.1] at h1
        rcases Nat.mul_eq_zero.mp h1 with h1 | h1 <;> (first | lia | omega)
      rw [if_neg (by simpa using hm), this]
      (first | lia | omega)
theorem cntF_rev (q : Nat) (js : List (List Nat)) : cntF q js.reverse = cntF q js := by
  unfold cntF
  rw [List.filter_reverse, List.length_reverse]
theorem range_getD : ∀ (U : List Nat), (List.range U.length).map (fun p => U.getD p 0) = U
  | U => by
    apply List.ext_getElem
    · simp
    · intro i h1 h2
      simp only [List.getElem_map, List.getElem_range]
      rw [List.getD_eq_getElem?_getD, List.getElem?_eq_getElem h2]
      rfl
theorem price_ev : ∀ (a b : List Nat), a.length = b.length → (priceL a.length a b).sum = ev a b
  | [], [], _ => rfl
  | [], _ :: _, h => by simp at h
  | _ :: _, [], h => by simp at h
  | x :: a, y :: b, h => by
    have ih := price_ev a b (by simpa using h)
    unfold priceL at *
    rw [List.length_cons, List.range_succ_eq_map, List.map_cons, List.sum_cons, List.map_map]
    simp only [Function.comp_def, List.getD_cons_succ, List.getD_cons_zero, ev]
    (first | lia | omega)
theorem oneStepAll {m : Nat} (h2 : 2 ≤ m) (h6 : m ≤ 6) : OneStep m := by
  match m, h2, h6 with
  | 2, _, _ => exact oneStep2
  | 3, _, _ => exact oneStep3
  | 4, _, _ => exact oneStep4
  | 5, _, _ => exact oneStep5
  | 6, _, _ => exact oneStep6
theorem lower : ∀ (g : Nat) (ps : List (List Nat)), 1 ≤ ps.length → ps.length ≤ 6 → (∀ p ∈ ps, 1 ≤ p.length) → (((gw g ps).map List.length).sum : Int) ≤ lst 6 (toI (ps.map List.length))
  | 0, ps, h1, h6, hp => by
    obtain ⟨T, hT, eT⟩ := lst_ex 6 (ps.map List.length) (by simpa using h6) (by simpa using h1)
    rw [eT]
    simp only [gw, List.map_nil, List.sum_nil]
    (first | lia | omega)
  | g + 1, ps, h1, h6, hp => by
    by_cases h : ps.length ≤ 1
    · obtain ⟨T, hT, eT⟩ := lst_ex 6 (ps.map List.length) (by simpa using h6) (by simpa using h1)
      rw [eT, gw, if_pos h]
      simp only [List.map_nil, List.sum_nil]
      (first | lia | omega)
    · have hl := gstep_len ps (by (first | lia | omega))
      have hat := atF_lt (ps.map List.length) (by simp; (first | lia | omega))
      rw [List.length_map] at hat
      have hrow : (gstep ps).2.map List.length = rstep (ps.map List.length) := gstep_row ps _ _ _ rfl rfl rfl (by (first | lia | omega))
      have hone := oneStepAll (m := ps.length) (by (first | lia | omega)) h6 (ps.map List.length) (by simp) (fun k hk => by
        obtain ⟨p, hq, rfl⟩ := List.mem_map.mp hk
        exact hp p hq)
      have ht : (gstep ps).1.length = rtot (ps.map List.length) := by
        show (ps.getD _ [] ++ ps.getD _ []).length = _
        rw [List.length_append]
        unfold rtot
        rw [getD_map List.length ps _ [] 0 rfl, getD_map List.length ps _ [] 0 rfl]
      have hp' : ∀ p ∈ (gstep ps).2, 1 ≤ p.length := by
        have hj : 1 ≤ (gstep ps).1.length := by
          show 1 ≤ (ps.getD _ [] ++ ps.getD _ []).length
          have hlt : atF (ps.map List.length) < ps.length := by (first | lia | omega)
          have g : ps.getD (atF (ps.map List.length)) [] = ps[atF (ps.map List.length)] := by
            rw [List.getD_eq_getElem?_getD, List.getElem?_eq_getElem hlt]; rfl
          have := hp _ (List.getElem_mem hlt)
          rw [List.length_append, g]
          (first | lia | omega)
        intro p hm
        have hm : p ∈ ps.take (rlow (ps.map List.length)) ++ [(gstep ps).1] ++ (ps.take (atF (ps.map List.length))).drop (rlow (ps.map List.length)) ++ ps.drop (atF (ps.map List.length) + 2) := hm
        rcases List.mem_append.mp hm with hm | hm
        · rcases List.mem_append.mp hm with hm | hm
          · rcases List.mem_append.mp hm with hm | hm
            · exact hp p (List.mem_of_mem_take hm)
            · obtain rfl : p = (gstep ps).1 := by simpa using hm
              exact hj
          · exact hp p (List.mem_of_mem_take (List.mem_of_mem_drop hm))
        · exact hp p (List.mem_of_mem_drop hm)
      have ih := lower g (gstep ps).2 (by (first | lia | omega)) (by (first | lia | omega)) hp'
      rw [hrow] at ih
      rw [gw, if_neg h, List.map_cons, List.sum_cons, ht]
      push_cast
      (first | lia | omega)
theorem treeOk4 : ∀ U ∈ trees 6 4, (treeS U 4).length = 1 ∧ strT (pcs (treeS U 4)) = S (ltrs 4) := by decide +kernel
theorem treeOk5 : ∀ U ∈ trees 6 5, (treeS U 5).length = 1 ∧ strT (pcs (treeS U 5)) = S (ltrs 5) := by decide +kernel
theorem treeOk6 : ∀ U ∈ trees 6 6, (treeS U 6).length = 1 ∧ strT (pcs (treeS U 6)) = S (ltrs 6) := by decide +kernel
theorem treesOk : ∀ n, 4 ≤ n → n ≤ 6 → ∀ U ∈ trees 6 n, TreeOk n U
  | 4, _, _ => treeOk4
  | 5, _, _ => treeOk5
  | 6, _, _ => treeOk6
  | 0, h, _ => by (first | lia | omega)
  | 1, h, _ => by (first | lia | omega)
  | 2, h, _ => by (first | lia | omega)
  | 3, h, _ => by (first | lia | omega)
  | n + 7, _, h => by (first | lia | omega)
theorem good_one {w : List Nat} (h4 : 4 ≤ w.length) (h6 : w.length ≤ 6) (hb : ∀ k ∈ w, 1 ≤ k ∧ k ≤ 8) : Good w (lst 6 (toI w)) := by
  obtain ⟨f, ct, hct⟩ : ∃ f ct, chk w.length f (base w.length) (posV w.length) [] ct = true := by
    generalize w.length = n at h4 h6
    match n, h4, h6 with
    | 4, _, _ => exact ⟨_, path_top (by (first | lia | omega)) paths4⟩
    | 5, _, _ => exact ⟨_, path_top (by (first | lia | omega)) paths5⟩
    | 6, _, _ => exact ⟨_, path_top (by (first | lia | omega)) paths6⟩
  have hlen := leavesN_len w w.length
  obtain ⟨T, hT, i1, i2⟩ := path_ok (w := w) f _ _ _ ct (leavesN w w.length) [] w.length hct (inv_leaves h6) (posV_ok h6 fun k hk => (hb k hk).1) ⟨rfl, fun _ => rfl⟩ (by (first | lia | omega))
  rw [List.append_nil] at i1 i2
  unfold leafOk at hT
  rw [Bool.and_eq_true] at hT
  obtain ⟨U, hU, eU⟩ := List.any_eq_true.mp hT.2
  have eU := beqV_eq eU
  have lU := trees_len _ _ _ hU
  have hts : heightsOf w = U := by
    conv => rhs; rw [← range_getD U]
    rw [lU]
    unfold heightsOf htF
    refine List.map_congr_left fun p hp => ?_
    have hp := List.mem_range.mp hp
    have hw : 1 ≤ w.getD p 0 := by
      rw [List.getD_eq_getElem?_getD, List.getElem?_eq_getElem hp]
      exact (hb _ (List.getElem_mem hp)).1
    have := cnt_sum (q := 97 + p) (c := w.getD p 0) (p := p + 1) hw _ T (i2 p) hT.1
    rw [cntF_rev, eU, List.getD_cons_succ] at this
    exact this
  unfold Good
  rw [hts]
  refine ⟨treesOk _ h4 h6 U hU, ?_⟩
  have e1 : (priceL w.length U w).sum = ev U w := by
    have := price_ev U w lU
    rwa [lU] at this
  rw [e1]
  have e2 : ev U w = ((gw w.length (leavesN w w.length)).map List.length).sum := by
    have h1 : ((gw w.length (leavesN w w.length)).reverse.map List.length).sum = ev U w := by
      rw [i1, sum_ev, eU]
      simp [ev]
    rw [← h1, List.map_reverse, List.sum_reverse]
  have up := lst_le 6 w U hU
  have lo := lower w.length (leavesN w w.length) (by (first | lia | omega)) (by (first | lia | omega)) (fun p hp => by
    obtain ⟨k, hk, rfl⟩ := List.mem_map.mp hp
    have hk := List.mem_range.mp hk
    rw [List.length_replicate, List.getD_eq_getElem?_getD, List.getElem?_eq_getElem hk]
    exact (hb _ (List.getElem_mem hk)).1)
  rw [leaves_row, ← e2] at lo
  (first | lia | omega)
theorem plain : Plain := by
  intro ws h4 h6 hb
  have e : lst ws.length (ws.map fun (k : Nat) => (k : Int)) = lst 6 (toI ws) := lst_same (by (first | lia | omega)) (Nat.le_refl _) h6
  rw [e]
  refine ⟨good_one h4 h6 hb, ?_⟩
  have := good_one (w := ws.reverse) (by simpa using h4) (by simpa using h6) fun k hk => hb k (List.mem_reverse.mp hk)
  rwa [lst_rev (by (first | lia | omega)) h6] at this
end Mine
end

set_option maxRecDepth 100000 in
theorem PySem.Challenge.cw_pe0043_01_holds : PySem.Challenge.rw_pe0043_01.Holds := by
  exact Mine.law_ends Mine.plain
