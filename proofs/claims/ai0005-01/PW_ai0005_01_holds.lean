import PyProof.Rows.All
import Wide.All
import OpenK.AllK
import Wide.FinOn
import PySem.Challenge.RW_ai0005_01
open _root_.PySem _root_.PySem.W _root_.PySem.Spec _root_.PySem.Calls _root_.PyProof.Rows
set_option linter.all false
set_option Elab.async false
set_option maxRecDepth 100000
set_option rowWalk.seconds 0
namespace Mine
theorem om1 {a b c : Nat} (h : a ≤ b) (e : Nat.ble b c = true) : a ≤ c := Nat.le_trans h (Nat.le_of_ble_eq_true e)
theorem om2 {d D k K : Nat} (h : d + D < K) (e : Nat.ble k D = true) : d + k < K := Nat.lt_of_le_of_lt (Nat.add_le_add_left (Nat.le_of_ble_eq_true e) d) h
theorem om0 {d D K : Nat} (h : d + D < K) : d < K := Nat.lt_of_le_of_lt (Nat.le_add_right d D) h
theorem om3 {d D i k K : Nat} (h : d + D < K) (e : Nat.ble (i + k) D = true) : d + i + k < K := Nat.lt_of_le_of_lt (Nat.le_of_eq (Nat.add_assoc d i k)) (om2 h e)
theorem om4 {d D i j k K : Nat} (h : d + D < K) (e : Nat.ble (i + j + k) D = true) : d + i + j + k < K := Nat.lt_of_le_of_lt (Nat.le_of_eq (by rw [Nat.add_assoc d i j])) (om3 (i := i + j) h e)
theorem om6 {a b c : Nat} (h : a < b) (e : Nat.ble b c = true) : a < c := Nat.lt_of_lt_of_le h (Nat.le_of_ble_eq_true e)
theorem om8 {n k : Int} {b : Int} (h : n < k) (e : decide (k ≤ b) = true) : n < b := Int.lt_of_lt_of_le h (of_decide_eq_true e)
theorem om9 {n k : Int} {b : Int} (h : k ≤ n) (e : decide (b ≤ k) = true) : b ≤ n := Int.le_trans (of_decide_eq_true e) h
theorem nd1 {x : Int} (h : 0 ≤ x) (k : Nat) : (x / (k : Int)).natAbs = x.natAbs / k := by
  obtain ⟨m, rfl⟩ := Int.eq_ofNat_of_zero_le h; rfl
theorem nd2 {x : Int} (h : 0 ≤ x) (k j : Nat) : (x / (k : Int) % (j : Int)).natAbs = x.natAbs / k % j := by
  obtain ⟨m, rfl⟩ := Int.eq_ofNat_of_zero_le h; rfl
theorem nab {x : Int} {K : Nat} (h0 : 0 ≤ x) (h1 : x < (K : Int)) : x.natAbs < K := by
  obtain ⟨m, rfl⟩ := Int.eq_ofNat_of_zero_le h0; exact Int.ofNat_lt.mp h1
theorem nde {m : Int} {K : Nat} (h : m.natAbs < K) : (m / 3600).natAbs < K + 1 := by
  cases m with
  | ofNat n => exact Nat.lt_succ_of_lt (Nat.lt_of_le_of_lt (Nat.div_le_self n 3600) h)
  | negSucc n => exact Nat.succ_lt_succ (Nat.lt_of_le_of_lt (Nat.div_le_self n 3600) (Nat.lt_of_succ_lt h))
theorem nal {x : Int} {K : Nat} (h : x ≤ K ∧ -(K : Int) ≤ x) : x.natAbs ≤ K := by
  cases x with
  | ofNat n => exact Int.ofNat_le.mp h.1
  | negSucc n => exact Int.ofNat_le.mp (Int.neg_le_neg_iff.mp h.2)
theorem omn1 {n b : Int} {K : Nat} (h : n.natAbs < K) (e : decide ((K : Int) ≤ b) = true) : n < b :=
  Int.lt_of_le_of_lt Int.le_natAbs (Int.lt_of_lt_of_le (Int.ofNat_lt.mpr h) (of_decide_eq_true e))
theorem omn3 {n b : Int} {K : Nat} (h : n.natAbs < K) (e : decide ((K : Int) ≤ b) = true) : -n < b := omn1 (by rw [Int.natAbs_neg]; exact h) e
theorem omn2 {n b : Int} {K : Nat} (h : n.natAbs < K) (e : decide (b ≤ -(K : Int)) = true) : b < n :=
  Int.lt_of_le_of_lt (of_decide_eq_true e) (Int.neg_lt_of_neg_lt (Int.lt_of_le_of_lt Int.le_natAbs (Int.ofNat_lt.mpr (by rw [Int.natAbs_neg]; exact h))))
theorem omn4 {n : Int} {K L : Nat} (h : n.natAbs < K) (e : Nat.ble K L = true) : (-n).natAbs < L := by
  rw [Int.natAbs_neg]; exact Nat.lt_of_lt_of_le h (Nat.le_of_ble_eq_true e)
theorem omt {a b k K L : Nat} (h : a ≤ b + k) (h2 : b < K) (e : Nat.ble (K + k) L = true) : a < L :=
  Nat.lt_of_lt_of_le (Nat.lt_of_le_of_lt h (Nat.add_lt_add_right h2 k)) (Nat.le_of_ble_eq_true e)
theorem lt3 {i : Nat} (h : i < 3) : i = 0 ∨ i = 1 ∨ i = 2 :=
  (Nat.lt_succ_iff_lt_or_eq.mp h).elim (fun h => (Nat.lt_succ_iff_lt_or_eq.mp h).elim (fun h => .inl (Nat.lt_one_iff.mp h)) (fun h => .inr (.inl h))) (fun h => .inr (.inr h))
theorem il4 {k : Int} (h : ¬ k < 4) (h8 : k < 8) : k = 4 ∨ k = 5 ∨ k = 6 ∨ k = 7 := by
  rcases Int.lt_or_eq_of_le (Int.not_lt.mp h) with h | h
  · rcases Int.lt_or_eq_of_le (show 5 ≤ k from h) with h | h
    · rcases Int.lt_or_eq_of_le (show 6 ≤ k from h) with h | h
      · exact .inr (.inr (.inr (Int.le_antisymm (Int.le_of_lt_add_one h8) h)))
      · exact .inr (.inr (.inl h.symm))
    · exact .inr (.inl h.symm)
  · exact .inl h.symm
theorem toN {m n : Nat} (h : n < ((m : Int) - 0).toNat) : n < m := by rw [Int.sub_zero] at h; exact h
theorem l3b {s m : Int} (h : s.natAbs < 10 ^ 58) (h0 : 0 ≤ m) (h1 : m < 59) : (s + 1 + m).natAbs < 10 ^ 60 :=
  Nat.lt_of_le_of_lt (Nat.le_trans (Int.natAbs_add_le _ _) (Nat.add_le_add (Int.natAbs_add_le _ _) (Nat.le_of_lt (nab (K := 59) h0 h1)))) (Nat.lt_of_lt_of_le (Nat.add_lt_add_right (Nat.add_lt_add_right h 1) 59) (by decide))
theorem atN {i : Int} {n : Nat} (h0 : 0 ≤ i) (h : i < (n : Int)) : i.toNat < n := (Int.toNat_lt h0).mpr h
local macro_rules | `(tactic| omega) => `(tactic| k_extra "own omega")
local macro_rules | `(tactic| kby_size) => `(tactic| k_extra "own kby_size")
local macro_rules | `(tactic| kst_p) => `(tactic| k_extra "own kst_p")
local macro_rules | `(tactic| walk_at $s:str) => `(tactic| k_extra $s)
theorem told_om : True := by
  k_with "own omega" => (with_reducible first | exact om6 (by assumption) rfl | exact om0 (by assumption) | exact om2 (by assumption) rfl | exact om3 (by assumption) rfl | exact om4 (by assumption) rfl | exact Int.emod_nonneg _ (by decide) | exact Int.emod_lt_of_pos _ (by decide) | exact om8 (by assumption) rfl | exact om9 (by assumption) rfl)
  trivial
section
open _root_.PySem _root_.PySem.W _root_.PySem.Spec _root_.PySem.Calls _root_.PyProof.Rows
theorem byName {P : Prop} (h : ∀ G : Prop, (P → G) → G) : P := h P id
noncomputable abbrev baseG : PySem.Ctx := ⟨.builtin "claim.caller" {}, none, none, [], none⟩
noncomputable abbrev wpB {α : Type} (M : Model) (t : Sem α) (Q : α → Shared → Prop) (E : Value → Shared → Prop) (s : Shared) : Prop :=
  ∀ p, Sem.wp M baseG t (fun a _ s' => Q a s') (fun e _ s' => E e s') p s

theorem wpB_of {α : Type} {M : Model} {t : Sem α} {Q : α → Shared → Prop} {E : Value → Shared → Prop} {s : Shared} (h : wpAny M callerA t Q E s) : wpB M t Q E s := fun p => h baseG p caller_in
theorem wpB_bind {α β : Type} {M : Model} {m : Sem α} {f : α → Sem β} {Q : β → Shared → Prop} {E : Value → Shared → Prop} {s : Shared} (h : wpB M m (fun a s' => wpB M (f a) Q E s') E s) : wpB M (m >>= f) Q E s := fun p => by
  rw [Sem.wp_bind']
  exact Sem.wp_mono M baseG m (fun a p' s' h' => h' p') (fun _ _ _ h' => h') p s (h p)
theorem wpB_mono {α : Type} {M : Model} {t : Sem α} {Q Q' : α → Shared → Prop} {E E' : Value → Shared → Prop} {s : Shared} (h : wpB M t Q E s) (hQ : ∀ a s, Q a s → Q' a s) (hE : ∀ e s, E e s → E' e s) : wpB M t Q' E' s :=
  fun p => Sem.wp_mono M baseG t (fun a _ s => hQ a s) (fun e _ s => hE e s) p s (h p)

theorem thread_endsB {prog : Program} {w : World} {t : Sem Fin} {s : Shared} {R : Result → Shared → Prop} (hreg : s.asleep)
    (h : wpB (model prog w) t (fun fin s' => ∃ f, fin = .done f ∧ (R (.ok f) s' ∧ leftWithCleanup s'.gens = false)) (fun e s' => R (.error e) s' ∧ leftWithCleanup s'.gens = false) s) :
    ∃ n r s' s'', runN (denote table) prog w n s ⟨t, .builtin "claim.caller" {}, default, []⟩ = .halted (outcomeOf r) s' ∧
      schedN (denote table) prog w n (.single s ⟨t, .builtin "claim.caller" {}, default, []⟩) = .halted (outcomeOf r) s' ∧ s'.forget = s''.forget ∧ R r s'' := by
  have h' : Sem.wp (model prog w) baseG t (Sem.finPost (model prog w) baseG fun r s' => R r s' ∧ leftWithCleanup s'.gens = false) (fun e _ s' => R (.error e) s' ∧ leftWithCleanup s'.gens = false) default s := by
    refine Sem.wp_mono _ _ _ (fun fin p' s' hf => ?_) (fun _ _ _ x => x) _ _ (h default)
    obtain ⟨f, rfl, hf⟩ := hf
    exact hf
  obtain ⟨n, r, s₁, s₂, hs, hn, hfo, hR⟩ := wp_halts_full (M := model prog w) (R := R) hreg h'
  exact ⟨n, r, s₂, s₁, hn, hs, hfo, hR⟩

theorem callFromB {c : ClaimW} {tree : List Value → Sem Fin} {w : World} {s : Shared} {free : Addr → Prop} {gens : Prop} {kept : Heap → Prop} (hz : s.asleep) (hgens : s.gens = #[])
    (hspec : ∀ args, c.pre args = true → WData.layableAll args = true →
      ∀ ord : List DictEntry → List DictEntry, (∀ l, (ord l).Perm l) →
      ∃ vs s₁, layAllW c.records (classAt s.heap) w.params ord args s = some (vs, s₁) ∧
        wpB (model c.prog w) (tree vs) (fun fin s' => ∃ f, fin = .done f ∧ (c.Ends s args vs s₁ (.ok f) s' ∧ s'.os = s.os ∧ AllBare s'.gens ∧ kept s'.heap))
          (fun e s' => c.Ends s args vs s₁ (.error e) s' ∧ s'.os = s.os ∧ AllBare s'.gens ∧ kept s'.heap) s₁) :
    c.CallFrom (fun vs => ⟨tree vs, .builtin "claim.caller" {}, default, []⟩) w free gens kept s := by
  intro args hpre hlay ord hord
  refine byName fun G hG => ?_
  obtain ⟨vs, s₁, hlaid, hcode⟩ := hspec args hpre hlay ord hord
  have hal := layAllW_rest _ _ _ hlaid
  have hcode' := wpB_mono (Q' := fun fin s' => ∃ f, fin = .done f ∧ ((fun r s' => c.Ends s args vs s₁ r s' ∧ s'.os = s.os ∧ kept s'.heap) (.ok f) s' ∧ leftWithCleanup s'.gens = false))
    (E' := fun e s' => (fun r s' => c.Ends s args vs s₁ r s' ∧ s'.os = s.os ∧ kept s'.heap) (.error e) s' ∧ leftWithCleanup s'.gens = false) hcode
    (fun fin s' x => by obtain ⟨f, e, h1, h2, h3, h4⟩ := x; exact ⟨f, e, ⟨h1, h2, h4⟩, leftWithCleanup_false_of_bare h3⟩)
    (fun e s' x => by obtain ⟨h1, h2, h3, h4⟩ := x; exact ⟨⟨h1, h2, h4⟩, leftWithCleanup_false_of_bare h3⟩)
  obtain ⟨k, r, s', s'', hrun, hsched, hfo, hcase, hos, hkp⟩ := thread_endsB (R := fun r s' => c.Ends s args vs s₁ r s' ∧ s'.os = s.os ∧ kept s'.heap) (Shared.asleep_of_life hal.2.2.2 hz) hcode'
  obtain ⟨eh, _, _, eo, _⟩ := Shared.forget_eq hfo
  have hcase := hcase.congr eh
  rw [← eh] at hkp
  rw [← eo] at hos
  have hlife : s'.heap.life = s.heap.life := (runN_life _ _ _ hrun).trans hal.2.2.2
  refine hG ?_
  refine ⟨vs, s₁, hlaid, k, _, s', hsched, ?_, (fun _ i x hx => by rw [hgens] at hx; simp at hx), hkp, by rw [hlife], Shared.rest_eq hos⟩
  rcases hcase with ⟨v, rfl, d1, d2, d3, d4, d5⟩ | ⟨e, ob, cls, rfl, d1, d2, d3, d4, d5⟩
  · exact .inl ⟨v, rfl, d1, d2, d3, fun b o y _ => d4 b o y, d5⟩
  · exact .inr ⟨e, ob, cls, rfl, d1, d2, d3, d4, fun b o y _ => d5 b o y⟩

noncomputable abbrev WalkB (q : Program) (loose : List Str) (XP : (Str → Option Value) → Heap → Prop) (YP : World → Heap → Prop) (r : RowW) (d : DefRec) (kwd : List (Str × Expr)) : Prop :=
  ∀ (w : World) (s₀ s₁ : Shared) (mg mb : Str → Option Value), Ground q loose r.records XP w s₀ mg mb s₁.heap → YP w s₁.heap → ∀ (a : Addr) (o : Obj) (pm cd doc dV kV : Value), s₁.heap.get? a = some o →
    o.data = .func { docDef d.name d.params d.body d.scope pm cd doc with defaults := dV, kwdefaults := kV } → s₁.heap.CodeRec cd d.name → Dflts mg s₁.heap d.params kwd dV kV → mg d.name = some (.ref a) → s₁.gens = #[] →
    ∀ (args : List WData) (vals : List Value) (as : List Addr), r.claim.pre args = true → WData.layableAll args = true → ReadsAllW r.records (classAt s₀.heap) s₁.heap vals args as → WellAll w.params s₁.heap vals args → (∀ a ∈ as, (a == sysModules) = false) →
      wpB (model r.prog w) (PySem.call (.ref a) vals) (fun v s' => GoodWG r.claim (classAt s₀.heap) (ExcName.means s₀.heap) args s₁ (.ok (.ret v)) s')
        (fun e s' => GoodWG r.claim (classAt s₀.heap) (ExcName.means s₀.heap) args s₁ (.error e) s') s₁

theorem PySem.W.holds_open {r : OpenRow} {q : Program} {loose : List Str} {Xt : Shared → Bool} {XP : (Str → Option Value) → Heap → Prop} {α : Type} {Yf : Shared → α} {Ya : World → α} {YP : World → Heap → Prop} {d : DefRec} {kwd : List (Str × Expr)} {N : Nat}
    (left : ∀ w, (openEnds treeTable r.prog w N).map (fun s => (openSeen q loose (importedModules r.prog.main.body) Xt true s, Yf s)) = some (openGood q loose, Ya w)) (hY : ∀ w s, Yf s = Ya w → YP w s.heap) (hYk : ∀ w h h', YP w h → (∀ b o, h.get? b = some o → h'.get? b = some o) → YP w h')
    (hX : ∀ s, Xt s = true → XP (s.heap.nsMap mainGlobals) s.heap) (hXk : ∀ mg h h', XP mg h → (∀ b o, h.get? b = some o → h'.get? b = some o) → XP mg h')
    (hdef : defOf q r.name = some (d, kwd)) (hp : r.prog.theDef r.name = some (d.params, d.body, d.scope)) (hk : kwWritten? d.params.kwonlyargs d.params.kw_defaults = some kwd) (hRf : ∀ s, Xt s = true → RecFacts r.records s.heap) (hwr : (!r.writes || r.records.isEmpty) = true)
    (k1 : r.wellSaid = true) (ok : (chainsOk q && opensWell r.prog && (frees r.toRowW && r.within.isEmpty)) = true) (hb : r.prog.bare) (hw : r.toRowW.promised)
    (call : WalkB q loose XP YP r.toRowW d kwd) : r.Holds := by
  have left : LeftO r.prog q loose Xt Yf Ya N := left
  refine ⟨k1, hw, ?_⟩
  obtain ⟨ok, k5⟩ := Bool.and_eq_true_iff.mp ok
  obtain ⟨hch, o1⟩ := Bool.and_eq_true_iff.mp ok
  obtain ⟨k5, k6⟩ := Bool.and_eq_true_iff.mp k5
  obtain ⟨hsame, hu, ha, hap, hm⟩ := frees_parts k5
  have hwi : r.toRowW.claim.within = [] := List.isEmpty_iff.mp k6
  have hi := ident_freeW hu ha hap
  refine ⟨⟨hb, o1, by show r.toRowW.makers.map _ = []; rw [hm]; rfl⟩, hw.witness, fun w => ⟨(left.behind hX hch w).1, fun s' hs' => ?_⟩⟩
  obtain ⟨s₀, hf, hg0, s, hT, hz, hgens, hg, G00, y⟩ := (left.behind (XP := fun mg h => XP mg h ∧ RecFacts r.records h) (fun s hs => ⟨hX s hs, hRf s hs⟩) hch w).2 s' hs'
  have G0 : Ground q loose [] XP w s (s.heap.nsMap mainGlobals) (s.heap.nsMap builtinsNs) s.heap := ⟨G00.T, G00.B, G00.D, G00.TE, G00.TD, G00.W, G00.X.1, G00.cls, G00.has, G00.apart, G00.once, G00.K⟩
  have RF := G00.X.2
  have G : Ground q loose r.records XP w s _ _ s.heap := RF.ground G0
  refine ⟨s₀, hf, hg0, s, hT, fun n hn => ?_, RF.1, RF.2.1, ?_⟩
  · obtain rfl : n = r.name := by split at hn <;> simp_all
    exact pinned_of_view hg G0 hdef hp hk
  have hgens : s.gens = #[] := Array.eq_empty_of_size_eq_zero (beq_iff_eq.mp hgens)
  refine callFromB (c := r.toRowW.claim) hz hgens fun args hpre hlay ord hord => ?_
  refine byName fun G' hG' => ?_
  obtain ⟨⟨vs, s₁⟩, hlaid⟩ := Option.isSome_iff_exists.mp (layAllW_isSome (P := w.params) (ord := ord) G.has args r.toRowW.args s (pre_splitW hpre).1)
  have keeps := layAllW_keeps _ _ _ hlaid
  have hal := layAllW_rest _ _ _ hlaid
  obtain ⟨as, hrd, hin, hold⟩ := reads_layAllW hord _ _ _ hlaid hlay s₁.heap (fun _ _ e => e)
  have L : Laid r.records w s s₁ args vs as := ⟨⟨ord, hord, hlaid⟩, hrd, hin, hold, keeps, hal.1.trans hgens, hal.2.2.1⟩
  have G₁ := G.keeps hXk keeps
  obtain ⟨a, o, pm, cd, doc, dV, kV, h1, h2, h3, h4, h5⟩ := G₁.fn hdef
  have hn : d.name = r.name := defOf_name hdef
  have hc := call w s s₁ _ _ G₁ (hYk _ _ _ (hY w s y) keeps) a o pm cd doc dV kV h2 h3 h4 h5 (hn ▸ h1) L.gens args vs as hpre hlay L.reads L.well (L.low G.low)
  refine hG' ?_
  refine ⟨vs, s₁, hlaid, wpB_bind (wpB_of (wpAny_nsGet G₁.T.g ?_))⟩
  rw [h1]
  refine wpB_bind (wpB_mono hc (fun v s' g => fun _ => ?_) fun e s' g => ?_)
  · have z := g.laid (c := r.toRowW.claim) hsame hwi hi L
    exact ⟨_, rfl, z.1, z.2.1, z.2.2, fun q => ⟨namesKept_of hT hg _ keeps g.2.1.old, noTable hwr q⟩⟩
  · have z := g.laid (c := r.toRowW.claim) hsame hwi hi L
    exact ⟨z.1, z.2.1, z.2.2, fun q => ⟨namesKept_of hT hg _ keeps g.2.1.old, noTable hwr q⟩⟩
end
section
open _root_.PySem _root_.PySem.W _root_.PyProof.Rows
set_option maxRecDepth 100000 in
set_option maxHeartbeats 8000000 in
open_top hd for PySem.Challenge.rw_ai0005_01.row
end
section
open _root_.PySem _root_.PySem.W _root_.PySem.Spec _root_.PySem.Calls _root_.PyProof.Rows
noncomputable abbrev PP : Program := Challenge.rw_ai0005_01.row.prog
noncomputable abbrev VW : Program := hd.view_1
noncomputable abbrev LO : List Str := looseW hd.view_1 [Str.ofString "format_timezone"]
noncomputable abbrev Led := List (Addr × Obj)

noncomputable def Con (w : World) (mean : ExcName → Option Value) (mg mb : Str → Option Value) (D : Nat) (f : Addr) (vs : List Value) (Ret : Value → Led → Prop) : Prop :=
  ∀ (dp un : Nat) (gd : Option (List Code)) (cn : Str) (cs : Scope) (a : Addr) (ccd : Value) (cl : List (Str × Addr)) (outer : List Env) (A₀ : Around) (base h₀ : Heap) (L : Addr) (m : Str → Option Value) (news : Led) (s : Shared) (Q E : Value → Shared → Prop),
    Below A₀ base outer h₀ → Fr h₀ L s.heap m → (hd.heap_1 w.params).In h₀ → News h₀ L s.heap news → Top hd.view_1 (looseW hd.view_1 [Str.ofString "format_timezone"]) mean mg mb h₀ → cs.kind = .function →
    dp + D < recursionLimit → un + 8 * D < cLine →
    (∀ v new h' tk', Ret v new → Fr h₀ L h' m → News h₀ L h' (new ++ news) → Q v { s with heap := h', toks := tk' }) →
    wpAny (model Challenge.rw_ai0005_01.row.prog w) (ktrTop dp un gd cn cs L a ccd cl outer) (call (.ref f) vs) Q E s
end
section
open _root_.PySem _root_.PySem.W _root_.PySem.Spec _root_.PySem.Calls _root_.PyProof.Rows
noncomputable def bodyAt (w : World) (f : Addr) : List Stmt := match (hd.heap_1 w.params).lookup f with
  | some ⟨_, _, .func fd, _⟩ => (match fd.body with | .stmts b => b | _ => [])
  | _ => []
noncomputable def stAt (w : World) (f : Addr) (k : Nat) : Stmt := (bodyAt w f).getD k (.Pass default)
noncomputable def subS : Stmt → List Stmt × List Stmt
  | .For _ _ b e _ => (b, e)
  | .If _ b e _ => (b, e)
  | _ => ([], [])
noncomputable def scopeAt (w : World) (f : Addr) : Scope := match (hd.heap_1 w.params).lookup f with
  | some ⟨_, _, .func fd, _⟩ => fd.scope
  | _ => default
noncomputable def nameAt (w : World) (f : Addr) : Str := match (hd.heap_1 w.params).lookup f with
  | some ⟨_, _, .func fd, _⟩ => fd.qualname
  | _ => default
theorem sub_cons {α : Type} {a : α} {l l' : List α} (h : a ∈ l') (k : ∀ p ∈ l, p ∈ l') : ∀ p ∈ a :: l, p ∈ l' := fun p hp => (List.mem_cons.mp hp).elim (fun e => e ▸ h) (k p)
noncomputable def Hold (P : Prop) : Prop := P
theorem hold {P : Prop} (h : Hold P) : P := h
theorem fr_ext {h₀ h : Heap} {L : Addr} {m m' : Str → Option Value} (F : Fr h₀ L h m) (e : ∀ y, m' y = m y) : Fr h₀ L h m' := (funext e : m' = m) ▸ F
noncomputable def Leaves (g : Heap) (L : Addr) (s s' : Shared) (m : Str → Option Value) (news : Led) : Prop := ∃ h' tk, s' = { s with heap := h', toks := tk } ∧ Fr g L h' m ∧ News g L h' news
theorem news_sub {h₀ h : Heap} {L : Addr} {l l' : Led} (N : News h₀ L h l) (hs : ∀ p ∈ l', p ∈ l) : News h₀ L h l' := fun p hp => N p (hs p hp)
theorem news_keep {h₀ h : Heap} {L : Addr} {q : Addr × Obj} {l l' : Led} (N : News h₀ L h (q :: l)) (hs : ∀ p ∈ l', p ∈ l) : News h₀ L h (q :: l') := fun p hp => (List.mem_cons.mp hp).elim (fun e => N p (e ▸ .head _)) fun e => N p (.tail _ (hs p e))
noncomputable def RetPost (g : Heap) (L' : Addr) (s : Shared) (P : Value → Led → Prop) (news : Led) (f : Flow) (s' : Shared) : Prop := ∃ v new, f = .ret v ∧ P v new ∧ ∃ m, Leaves g L' s s' m (new ++ news)
@[elab_as_elim] theorem RetPost.use {g : Heap} {L' : Addr} {s : Shared} {P : Value → Led → Prop} {news : Led} {f : Flow} {s' : Shared} {C : Flow → Shared → Prop} (q : RetPost g L' s P news f s')
    (k : ∀ (v : Value) (new : Led) (m : Str → Option Value) (h' : Heap) (tk : Nat), P v new → Fr g L' h' m → News g L' h' (new ++ news) → C (.ret v) { s with heap := h', toks := tk }) : C f s' := by
  obtain ⟨v, new, rfl, hR, m, h', tk, rfl, F, N⟩ := q
  exact k v new m h' tk hR F N
theorem ret_post0 {g h' : Heap} {L' : Addr} {s : Shared} {tk : Nat} {P : Value → Led → Prop} {news : Led} {m : Str → Option Value} {v : Value} (hr : P v []) (F : Fr g L' h' m) (N : News g L' h' news) : RetPost g L' s P news (.ret v) { s with heap := h', toks := tk } :=
  ⟨v, [], rfl, hr, m, h', tk, rfl, F, N⟩
theorem ret_post1 {g h' : Heap} {L' : Addr} {s : Shared} {tk : Nat} {P : Value → Led → Prop} {news : Led} {m : Str → Option Value} {v : Value} {q : Addr × Obj} (hr : P v [q]) (F : Fr g L' h' m) (N : News g L' h' (q :: news)) : RetPost g L' s P news (.ret v) { s with heap := h', toks := tk } :=
  ⟨v, [q], rfl, hr, m, h', tk, rfl, F, N⟩
theorem in3 {g h : Heap} {L : Addr} {M : Str → Option Value} {x1 x2 x3 : Str} {v1 v2 v3 : Value} (F : Fr g L h M) (h1 : M x1 = some v1) (h2 : M x2 = some v2) (h3 : M x3 = some v3) :
    Fr g L h (fun y => if y = x1 then some v1 else if y = x2 then some v2 else if y = x3 then some v3 else M y) := by
  refine fr_ext F fun y => ?_
  by_cases q1 : y = x1
  · rw [if_pos q1, q1, h1]
  by_cases q2 : y = x2
  · rw [if_neg q1, if_pos q2, q2, h2]
  by_cases q3 : y = x3
  · rw [if_neg q1, if_neg q2, if_pos q3, q3, h3]
  rw [if_neg q1, if_neg q2, if_neg q3]
theorem in2 {g h : Heap} {L : Addr} {M : Str → Option Value} {x1 x2 : Str} {v1 v2 : Value} (F : Fr g L h M) (h1 : M x1 = some v1) (h2 : M x2 = some v2) :
    Fr g L h (fun y => if y = x1 then some v1 else if y = x2 then some v2 else M y) := by
  refine fr_ext F fun y => ?_
  by_cases q1 : y = x1
  · rw [if_pos q1, q1, h1]
  by_cases q2 : y = x2
  · rw [if_neg q1, if_pos q2, q2, h2]
  rw [if_neg q1, if_neg q2]
theorem news_skip {h₀ h : Heap} {L : Addr} {q : Addr × Obj} {l r : Led} (N : News h₀ L h (l ++ q :: r)) : News h₀ L h (l ++ r) := fun p hp => N p ((List.mem_append.mp hp).elim (fun z => List.mem_append_left _ z) fun z => List.mem_append_right _ (.tail _ z))
section
variable {M : Model} {A : Around} {E : Value → Shared → Prop} {s : Shared} {h₀ : Heap} {L a : Addr} {m : Str → Option Value} {cn : Str} {cs : Scope} {ccd : Value} {cl : List (Str × Addr)} {x : Str} {Q : Unit → Shared → Prop} {news : Led}
theorem storeG_int {i : Int} {t : Tok} (F : Fr h₀ L s.heap m) (N : News h₀ L s.heap news)
    (k : ∀ (h' : Heap) (t' : Tok) (tk' : Nat), (Fr h₀ L h' fun y => if y = x then some (.int i t') else m y) → News h₀ L h' news → Q () { s with heap := h', toks := tk' })
    (hc : cs.kind = .function) (hk : (envX cn cs L a ccd cl).kindOf x = some .local) : wpAny M A (storeName (envX cn cs L a ccd cl) x (.int i t)) Q E s :=
  storeX_L F N (fun h' F' N' => k h' t _ F' N') hc hk
theorem storeG_bytes {b : Array UInt8} {t : Tok} (F : Fr h₀ L s.heap m) (N : News h₀ L s.heap news)
    (k : ∀ (h' : Heap) (t' : Tok) (tk' : Nat), (Fr h₀ L h' fun y => if y = x then some (.bytes b t') else m y) → News h₀ L h' news → Q () { s with heap := h', toks := tk' })
    (hc : cs.kind = .function) (hk : (envX cn cs L a ccd cl).kindOf x = some .local) : wpAny M A (storeName (envX cn cs L a ccd cl) x (.bytes b t)) Q E s :=
  storeX_L F N (fun h' F' N' => k h' t _ F' N') hc hk
theorem storeG_any {v : Value} (F : Fr h₀ L s.heap m) (N : News h₀ L s.heap news)
    (k : ∀ (h' : Heap) (tk' : Nat), (Fr h₀ L h' fun y => if y = x then some v else m y) → News h₀ L h' news → Q () { s with heap := h', toks := tk' })
    (hc : cs.kind = .function) (hk : (envX cn cs L a ccd cl).kindOf x = some .local) : wpAny M A (storeName (envX cn cs L a ccd cl) x v) Q E s :=
  storeX_L F N (fun h' F' N' => k h' _ F' N') hc hk
end
noncomputable def NextPost (g : Heap) (L : Addr) (s : Shared) (m : Str → Option Value) (news : Led) (f : Flow) (s' : Shared) : Prop := f = .next ∧ Leaves g L s s' m news
@[elab_as_elim] theorem NextPost.use {g : Heap} {L : Addr} {s : Shared} {m : Str → Option Value} {news : Led} {f : Flow} {s' : Shared} {MOT : Flow → Shared → Prop} (q : NextPost g L s m news f s')
    (k : ∀ (h' : Heap) (tk : Nat), Fr g L h' m → News g L h' news → MOT .next { s with heap := h', toks := tk }) : MOT f s' := by
  obtain ⟨rfl, h', tk, rfl, F, N⟩ := q
  exact k h' tk F N
end
section
open _root_.PySem _root_.PySem.W _root_.PySem.Spec _root_.PySem.Calls _root_.PyProof.Rows

noncomputable def HasC (Γ : PySem.Ctx) : Prop := (Γ.code :: Γ.below.map (·.1)).any Code.isCaller = true
noncomputable def HasCB (Γ : PySem.Ctx) : Prop := (Γ.below.map (·.1)).any Code.isCaller = true
theorem HasCB.here {Γ : PySem.Ctx} (h : HasCB Γ) : HasC Γ := by
  unfold HasC HasCB at *; rw [List.any_cons, h, Bool.or_true]
theorem HasC.enter {Γ : PySem.Ctx} (h : HasC Γ) (c : Code) (hd : Option Value) (p : Pos) : HasCB (Γ.enter c hd p) := h
theorem HasCB.goto {Γ : PySem.Ctx} (h : HasCB Γ) (c : Code) : HasCB (Γ.goto c) := h

noncomputable def wpK {α : Type} (M : Model) (A : Around) (t : Sem α) (Q : α → Shared → Prop) (E : Value → Shared → Prop) (s : Shared) : Prop :=
  ∀ Γ p, Γ.In A → HasC Γ → Sem.wp M Γ t (fun a _ s' => Q a s') (fun e _ s' => E e s') p s
noncomputable def codeK (M : Model) (A : Around) (c : Code) (R : Result → Shared → Prop) (s : Shared) : Prop :=
  ∀ Γ p, Γ.code = c → Γ.Below A → HasCB Γ → wpCode M Γ R p s

section
variable {α β : Type} {M : Model} {A : Around} {E : Value → Shared → Prop} {s : Shared}

theorem wpK_of {t : Sem α} {Q : α → Shared → Prop} (h : wpAny M A t Q E s) : wpK M A t Q E s := fun Γ p hΓ _ => h Γ p hΓ
theorem codeK_of {c : Code} {R : Result → Shared → Prop} (h : codeAny M A c R s) : codeK M A c R s := fun Γ p hc hΓ _ => h Γ p hc hΓ
theorem wpK_pure {a : α} {Q : α → Shared → Prop} (h : Q a s) : wpK M A (pure a) Q E s := fun _ _ _ _ => h
theorem wpK_mono {t : Sem α} {Q Q' : α → Shared → Prop} {E' : Value → Shared → Prop} (h : wpK M A t Q E s) (hQ : ∀ a s, Q a s → Q' a s) (hE : ∀ e s, E e s → E' e s) : wpK M A t Q' E' s :=
  fun Γ p hΓ hC => Sem.wp_mono M Γ t (fun a _ s => hQ a s) (fun e _ s => hE e s) p s (h Γ p hΓ hC)
theorem wpK_bind {m : Sem α} {f : α → Sem β} {Q : β → Shared → Prop} (h : wpK M A m (fun a s' => wpK M A (f a) Q E s') E s) : wpK M A (m >>= f) Q E s := fun Γ p hΓ hC => by
  rw [Sem.wp_bind']
  exact Sem.wp_mono M Γ m (fun a p' s' h' => h' Γ p' hΓ hC) (fun _ _ _ h' => h') p s (h Γ p hΓ hC)
theorem wpK_bindA {m : Sem α} {f : α → Sem β} {Q : β → Shared → Prop} (h : wpAny M A m (fun a s' => wpK M A (f a) Q E s') E s) : wpK M A (m >>= f) Q E s := wpK_bind (wpK_of h)
theorem wpK_bindB {m : Sem α} {f : α → Sem β} {Q : β → Shared → Prop} (h : wpK M A m (fun a s' => wpAny M A (f a) Q E s') E s) : wpK M A (m >>= f) Q E s :=
  wpK_bind (wpK_mono h (fun _ _ x => wpK_of x) fun _ _ x => x)
theorem wpK_onRaise {m : Sem α} {k : Value → Sem Unit} {Q : α → Shared → Prop} (h : wpK M A m Q (fun e s' => wpAny M A (k e) (fun _ s'' => E e s'') E s') s) : wpK M A (m.onRaise k) Q E s := fun Γ p hΓ hC => by
  rw [Sem.wp_onRaise]
  exact Sem.wp_mono M Γ m (fun _ _ _ h' => h') (fun e p' s' h' => h' Γ p' hΓ) p s (h Γ p hΓ hC)
theorem wpK_attempt {m : Sem α} {Q : Except Value α → Shared → Prop} (h : wpK M A m (fun a => Q (.ok a)) (fun e => Q (.error e)) s) : wpK M A m.attempt Q E s := fun Γ p hΓ hC => by
  rw [Sem.wp_attempt]; exact h Γ p hΓ hC
theorem wpK_holding {vs : List Value} {m : Sem α} {Q : α → Shared → Prop} (h : wpK M A m Q E s) : wpK M A (holding vs m) Q E s :=
  fun Γ p hΓ hC => by rw [Sem.wp_holding]; exact h Γ p hΓ hC
theorem wpK_standAt {pos : Pos} {Q : Unit → Shared → Prop} (h : Q () s) : wpK M A (standAt pos) Q E s := fun _ _ _ _ => h
theorem codeK_mono {c : Code} {R R' : Result → Shared → Prop} (h : codeK M A c R s) (hR : ∀ r s, R r s → R' r s) : codeK M A c R' s :=
  fun Γ p hc hΓ hC => wpCode_mono hR (h Γ p hc hΓ hC)
theorem wpK_run {c : Code} {h : Option Value} {Q : Flow → Shared → Prop}
    (hc : codeK M (A.mark h) c (fun r s' => match r with | .ok f => Q f s' | .error e => E e s') s) (hnb : h ≠ some byPass) : wpK M A (run c h) Q E s :=
  fun Γ p hΓ hC => by rw [Sem.wp_run]; exact hc _ p rfl (hΓ.enter c h p hnb) (hC.enter c h p)
theorem wpK_runValue {c : Code} {Q : Value → Shared → Prop} (hc : codeK M A c (fun r s' => match r with | .ok (.ret v) => Q v s' | .ok _ => False | .error e => E e s') s) : wpK M A (runValue c) Q E s :=
  fun Γ p hΓ hC => by rw [Sem.wp_runValue]; exact hc _ p rfl (hΓ.enter c none p (by intro x; cases x)) (hC.enter c none p)
theorem wpK_call {f : Value} {pos : List Value} {kw : List (Str × Value)} {Q : Value → Shared → Prop}
    (hc : codeK M A (.call f ⟨pos, kw⟩) (fun r s' => match r with | .ok (.ret v) => Q v s' | .ok _ => False | .error e => E e s') s) : wpK M A (call f pos kw) Q E s := wpK_runValue hc
theorem codeK_of_tree {c : Code} {R : Result → Shared → Prop}
    (h : wpK M (A.under c) (M.den c) (fun fin s' => match fin with | .done f => R (.ok f) s' | .again c' => c'.quiet = true ∧ codeK M A c' R s') (fun e s' => R (.error e) s') s) : codeK M A c R s := fun Γ p hc hΓ hC => by
  rw [wpCode_iff_wp, hc]
  refine Sem.wp_mono M Γ _ (fun fin p' s' h' => ?_) (fun _ _ _ h' => h') p s (h Γ p (hc ▸ hΓ.in) hC.here)
  cases fin with
  | done f => exact h'
  | again c' => exact ⟨h'.1, h'.2 (Γ.goto c') p' rfl (hΓ.goto c') (hC.goto c')⟩
theorem wpK_units_le {t : Sem α} {Q : α → Shared → Prop} {u : Nat} (h : wpK M A t Q E s) (hu : u ≤ A.units) : wpK M { A with units := u } t Q E s :=
  fun Γ p hΓ hC => h Γ p (hΓ.units_le hu) hC

theorem wpK_mark {own : List String} {e : Value} {Q : Unit → Shared → Prop} (h : Q () s) : wpK M A (markTheRefusal own e) Q E s := fun Γ p _ hC => by
  have e0 : pythonCodeMadeTheCall own (((Γ.code, p) :: Γ.below).map (·.1)) = false := by
    unfold pythonCodeMadeTheCall
    simp -iota only [Bool.and_eq_false_iff, Bool.not_eq_false']
    exact .inl (.inl hC)
  unfold markTheRefusal
  rw [Sem.wp_bind']
  show Sem.wp M Γ (if pythonCodeMadeTheCall own (((Γ.code, p) :: Γ.below).map (·.1)) = true then _ else pure ()) _ _ p s
  rw [e0]
  exact h
end

section
variable {prog : Program} {w : World} {M : Model} {A : Around} {E : Value → Shared → Prop} {s : Shared} {env : Env}

theorem wpK_execs_cons {st : Stmt} {rest : List Stmt} {Q : Flow → Shared → Prop}
    (h : wpK M A (exec st env) (fun f s' => match f with | .next => wpK M A (execs rest env) Q E s' | f => Q f s') E s) : wpK M A (execs (st :: rest) env) Q E s := by
  rw [execs_cons]
  refine wpK_bind (wpK_mono h (fun f s' h' => ?_) fun _ _ x => x)
  cases f <;> first | exact h' | exact wpK_pure h'
theorem wpK_If {test : Expr} {body orelse : List Stmt} {pos : Pos} {Q : Flow → Shared → Prop}
    (h : wpK M A (isTrue test env (eval test env)) (fun b s₂ => if b then wpK M A (execs body env) Q E s₂ else wpK M A (execs orelse env) Q E s₂) E s) : wpK M A (exec (.If test body orelse pos) env) Q E s := by
  rw [exec_If]
  refine wpK_bind (wpK_standAt (wpK_bind (wpK_mono h (fun b s' h' => ?_) fun _ _ x => x)))
  cases b <;> exact h'
theorem wpK_isTrue_Compare1 {l : Expr} {op : CmpOp} {r : Expr} {pos : Pos} {whole : Sem Value} {Q : Bool → Shared → Prop}
    (h : wpK M A (eval l env) (fun a s₁ => wpK M A (eval r env) (fun b s₂ => wpAny M A (compareOp op a b) (fun c s₃ => wpAny M A (truthy c) Q E s₃) E s₂) E s₁) E s)
    (hm : behindInMarks op r = false := by with_unfolding_all rfl) : wpK M A (isTrue (.Compare l [op] [r] pos) env whole) Q E s := fun Γ p hΓ hC => by
  simp -iota only [isTrue_Compare1, markedBehindIn_of_false hm, Sem.wp_bind', Sem.wp_holding, Sem.wp_cmd_standAt, Sem.wp_operate]
  exact Sem.wp_mono M Γ _ (fun a p₁ s₁ h₁ => Sem.wp_mono M Γ _ (fun b _ s₂ h₂ => Sem.wp_mono M Γ _ (fun c p₃ s₃ h₃ => h₃ Γ p₃ hΓ)
    (fun _ _ _ h' => h') _ _ (h₂ Γ _ hΓ)) (fun _ _ _ h' => h') _ _ (h₁ Γ p₁ hΓ hC)) (fun _ _ _ h' => h') _ _ (h Γ p hΓ hC)
theorem wpK_isTrue_or_nil {pos : Pos} {whole : Sem Value} {Q : Bool → Shared → Prop} (h : Q false s) : wpK M A (isTrue (.BoolOp .Or [] pos) env whole) Q E s := wpK_of (isTrue_or_nil h)
theorem wpK_isTrue_and_nil {pos : Pos} {whole : Sem Value} {Q : Bool → Shared → Prop} (h : Q true s) : wpK M A (isTrue (.BoolOp .And [] pos) env whole) Q E s := wpK_of (isTrue_and_nil h)
theorem wpK_isTrue_or {x : Expr} {rest : List Expr} {pos : Pos} {whole : Sem Value} {Q : Bool → Shared → Prop}
    (h : wpK M A (isTrue x env (eval x env)) (fun c s' => if c then Q true s' else wpK M A (isTrue (.BoolOp .Or rest pos) env whole) Q E s') E s) : wpK M A (isTrue (.BoolOp .Or (x :: rest) pos) env whole) Q E s := by
  show wpK M A (do
    match BoolOp.Or, ← isTrue x env (eval x env) with
    | .And, false => pure false
    | .Or, true => pure true
    | _, _ => allTrue .Or rest env) Q E s
  refine wpK_bind (wpK_mono h (fun c s' h' => ?_) fun _ _ x => x)
  cases c with
  | false => exact h'
  | true => exact wpK_pure h'
theorem wpK_isTrue_and {x : Expr} {rest : List Expr} {pos : Pos} {whole : Sem Value} {Q : Bool → Shared → Prop}
    (h : wpK M A (isTrue x env (eval x env)) (fun c s' => if c then wpK M A (isTrue (.BoolOp .And rest pos) env whole) Q E s' else Q false s') E s) : wpK M A (isTrue (.BoolOp .And (x :: rest) pos) env whole) Q E s := by
  show wpK M A (do
    match BoolOp.And, ← isTrue x env (eval x env) with
    | .And, false => pure false
    | .Or, true => pure true
    | _, _ => allTrue .And rest env) Q E s
  refine wpK_bind (wpK_mono h (fun c s' h' => ?_) fun _ _ x => x)
  cases c with
  | false => exact wpK_pure h'
  | true => exact h'
theorem wpK_Assign_Name {x : Str} {pos' : Pos} {value : Expr} {pos : Pos} {Q : Flow → Shared → Prop}
    (h : wpK M A (eval value env) (fun v s₁ => wpAny M A (storeName env x v) (fun _ => Q .next) E s₁) E s)
    (hs : swapsWith value (some (.Name x pos')) pos.line env = pure false := by rfl) : wpK M A (exec (.Assign [.Name x pos'] value pos) env) Q E s := fun Γ p hΓ hC => by
  simp -iota only [exec_Assign_Name env x pos' value pos hs, Sem.wp_bind', Sem.wp_cmd_standAt, Sem.wp_bindName, Sem.wp_pure']
  exact Sem.wp_mono M Γ _ (fun v _ s₁ h₁ => h₁ Γ _ hΓ) (fun _ _ _ h' => h') _ _ (h Γ _ hΓ hC)
theorem wpK_Try_except {body orelse : List Stmt} {h₀ : ExceptHandler} {hs : List ExceptHandler} {pos : Pos} {Q : Flow → Shared → Prop}
    (h : wpK (model prog w) A (execs body env) (fun f s₁ => match f with | .next => wpAny (model prog w) A (execs orelse env) Q E s₁ | f => Q f s₁)
      (fun e s₁ => wpAny (model prog w) A (noteFrame e env) (fun _ s₂ => wpAny (model prog w) A (setFlight e none) (fun _ s₃ => wpAny (model prog w) A (handleBy e env (h₀ :: hs)) Q E s₃) E s₂) E s₁) s) :
    wpK (model prog w) A (exec (.Try body (h₀ :: hs) orelse [] pos) env) Q E s := by
  rw [arm_exec_Try]
  refine wpK_bind (wpK_standAt ?_)
  unfold tryStmt
  simp -iota only [List.isEmpty_nil, if_true, List.isEmpty_cons, Bool.false_and, Bool.false_eq_true, if_false]
  refine wpK_bind (wpK_attempt (wpK_mono h (fun f s₁ h₁ => ?_) fun e s₁ h₁ => wpK_of ?_))
  · cases f <;> first | exact wpK_of h₁ | exact wpK_pure h₁
  · exact wpAny_bind (wpAny_mono h₁ (fun _ _ h₂ => wpAny_bind h₂) fun _ _ x => x)
theorem wpK_runOwn {c : Code} {h : Option Value} {Q : Flow → Shared → Prop}
    (hc : codeK M (A.mark h) c (fun r s' => match r with | .ok f => Q f s' | .error e => cameBackBy M A env E e s') s) (hnb : h ≠ some byPass := by intro x; cases x) : wpK M A (runOwn c env h) Q E s := by
  unfold runOwn
  exact wpK_onRaise (wpK_run hc hnb)
theorem wpK_For {target iter : Expr} {body orelse : List Stmt} {pos : Pos} {Q : Flow → Shared → Prop}
    (h : wpAny M A (eval iter env) (fun x s₁ => wpAny M A (pyIter x) (fun it s₂ =>
      codeK M A (.forLoop target it body orelse env) (fun r s' => match r with | .ok f => Q f s' | .error e => cameBackBy M A env E e s') s₂) E s₁) E s)
    (hs : ∀ x, foldedSetIterable iter env x = pure x := by intro _; rfl) : wpK M A (exec (.For target iter body orelse pos) env) Q E s := by
  rw [exec_For]
  refine wpK_bind (wpK_standAt (wpK_bindA (wpAny_mono h (fun x s₁ h₁ => ?_) fun _ _ x => x)))
  refine wpK_bindA (wpAny_of_eq (hs x) ?_)
  refine wpK_bind (wpK_standAt (wpK_bindA (wpAny_holding (wpAny_mono h₁ (fun it s₂ h₂ => wpK_runOwn h₂) fun _ _ x => x))))
end
noncomputable def Go (P : Prop) : Prop := P
section
variable {α : Type} {M : Model} {A : Around} {s : Shared} {t : Sem α} {Q : α → Shared → Prop} {E : Value → Shared → Prop}
theorem go_on {Q Qv : α → Shared → Prop} {f : α} {s' : Shared} (h : ∀ f s', Q f s' → Qv f s') (q : Q f s') : Go (Qv f s') := h _ _ q
theorem gen_any (h : ∀ (Qv : α → Shared → Prop) (Ev : Value → Shared → Prop), (∀ f s', Q f s' → Qv f s') → (∀ e s', E e s' → Ev e s') → wpAny M A t (fun f s' => Go (Qv f s')) (fun e s' => Go (Ev e s')) s) : wpAny M A t Q E s :=
  h Q E (fun _ _ q => q) fun _ _ q => q
theorem gen_K (h : ∀ (Qv : α → Shared → Prop) (Ev : Value → Shared → Prop), (∀ f s', Q f s' → Qv f s') → (∀ e s', E e s' → Ev e s') → wpK M A t (fun f s' => Go (Qv f s')) (fun e s' => Go (Ev e s')) s) : wpK M A t Q E s :=
  h Q E (fun _ _ q => q) fun _ _ q => q
theorem wpAny_monoG {Q' : α → Shared → Prop} {E' : Value → Shared → Prop} (h : wpAny M A t Q' E' s) (k : ∀ Qv : α → Shared → Prop, (∀ f s', Q f s' → Qv f s') → ∀ f s', Q' f s' → Go (Qv f s')) (hE : ∀ e s', E' e s' → E e s') : wpAny M A t Q E s :=
  wpAny_mono h (fun f s' q => k Q (fun _ _ z => z) f s' q) hE
theorem wpK_monoG {Q' : α → Shared → Prop} {E' : Value → Shared → Prop} (h : wpK M A t Q' E' s) (k : ∀ Qv : α → Shared → Prop, (∀ f s', Q f s' → Qv f s') → ∀ f s', Q' f s' → Go (Qv f s')) (hE : ∀ e s', E' e s' → E e s') : wpK M A t Q E s :=
  wpK_mono h (fun f s' q => k Q (fun _ _ z => z) f s' q) hE
theorem gen_leaveK {t : Sem Flow} {h₀ g : Heap} {L : Addr} {m : Str → Option Value} {R : Result → Shared → Prop} {V : Flow → Value}
    (h : ∀ (Qv : Flow → Shared → Prop) (Ev : Value → Shared → Prop), (∀ f s', LeaveK h₀ L m g R (V f) s' → Qv f s') → (∀ e s', E e s' → Ev e s') → wpAny M A t (fun f s' => Go (Qv f s')) (fun e s' => Go (Ev e s')) s) : wpAny M A t (fun f s' => LeaveK h₀ L m g R (V f) s') E s :=
  gen_any h
theorem gen_note {t : Sem Flow} {Q : Flow → Shared → Prop} {n : Value → Sem Unit} {Q' : Value → Shared → Unit → Shared → Prop} {E' : Value → Shared → Value → Shared → Prop}
    (h : ∀ (Qv : Flow → Shared → Prop) (Ev : Value → Shared → Prop), (∀ f s', Q f s' → Qv f s') → (∀ e s', wpAny M A (n e) (Q' e s') (E' e s') s' → Ev e s') → wpAny M A t (fun f s' => Go (Qv f s')) (fun e s' => Go (Ev e s')) s) : wpAny M A t Q (fun e s' => wpAny M A (n e) (Q' e s') (E' e s') s') s :=
  gen_any h
end
end
section
open _root_.PySem _root_.PySem.W _root_.PySem.Spec _root_.PySem.Calls _root_.PyProof.Rows
section
variable {prog : Program} {w : World} {A : Around} {R : Result → Shared → Prop} {s : Shared}

theorem codeK_func {body : List Stmt} {env : Env}
    (h : wpK (model prog w) (A.deeper env) (execs body env) (fun f s' => R (.ok (.ret (match f with | .ret v => v | _ => .none))) s')
      (fun e s' => wpAny (model prog w) (A.deeper env) (leaving env e) (fun _ s'' => R (.error e) s'') (fun e' s'' => R (.error e') s'') s') s) :
    codeK (model prog w) A (.func body env) R s := by
  refine codeK_of_tree ?_
  show wpK _ (A.deeper env) (do point; match ← (execs body env).onRaise (leaving env) with | .ret v => ret v | _ => ret .none) _ _ s
  refine wpK_bindA (wpAny_point (wpK_bind ?_))
  intro Γ p hΓ hC
  rw [Sem.wp_onRaise]
  refine Sem.wp_mono _ Γ _ (fun f p' s' h' => ?_) (fun e p' s' h' => h' Γ p' hΓ) p _ (h Γ p hΓ hC)
  cases f <;> exact wpK_pure h'

theorem codeK_call_def {a : Addr} {o : Obj} {fd : FuncData} {body : List Stmt} {args : Args} {binds : List (Str × Value)}
    (hroom : A.depth < recursionLimit) (ho : s.heap.get? a = some o) (hdata : o.data = .func fd) (hlim : s.heap.NoLimit) (hcd : s.heap.CodeRec fd.code fd.qualname)
    (hbody : fd.body = .stmts body) (hbind : BindsTo s fd args binds)
    (hcell : ∀ x ∈ fd.scope.names, x.2 ≠ .cell) (hloc : ∀ x ∈ binds, fd.scope.names.lookup x.1 = some .local)
    (h : ∀ h₀, h₀.Ns s.heap.objs.size (fun x => binds.reverse.lookup x) → (∀ b o, s.heap.get? b = some o → h₀.get? b = some o) →
      wpK (model prog w) (A.deeper (callEnv fd s.heap.objs.size a)) (execs body (callEnv fd s.heap.objs.size a)) (fun f s' => R (.ok (.ret (match f with | .ret v => v | _ => .none))) s')
        (fun e s' => wpAny (model prog w) (A.deeper (callEnv fd s.heap.objs.size a)) (leaving (callEnv fd s.heap.objs.size a) e) (fun _ s'' => R (.error e) s'') (fun e' s'' => R (.error e') s'') s')
        { s with heap := h₀, toks := s.toks + binds.length })
    (hco : fd.scope.isCoroutine = false) (hgen : fd.scope.isGenerator = false) (hk : fd.scope.kind = .function) :
    codeK (model prog w) A (.call (.ref a) args) R s := by
  refine codeK_of_tree ?_
  show wpK _ A.in1 (callAny (.ref a) args) _ _ s
  simp -iota only [callAny]; dsimp only
  refine wpK_bindA (wpAny_load ho ?_)
  obtain ⟨c, oc, vs, tq, hc, hoc, hdc, hq⟩ := hcd
  simp -iota only [hdata, callFunction]; dsimp only; simp -iota only [hco, hgen, hbody, hc]; dsimp only
  refine wpK_bindA (m := field (.ref c) 1) (wpAny_field hoc hdc hq (wpK_bindA (wpAny_pure ?_)))
  refine wpK_bindA (hbind _ _ _ _ (wpK_bindA (wpAny_newFunctionEnv hcell hloc (fun h₀ hns₀ hsb₀ => ?_) hk)))
  refine wpK_bindA (wpAny_enterFrame (hlim.fresh _ hsb₀) hroom (wpK_pure (And.intro rfl (codeK_func (hc ▸ h h₀ hns₀ fun b o e => ?_)))))
  exact hsb₀.extBut b o (Nat.ne_of_lt (Heap.lt_size e)) (Heap.get?_push_of_some _ e)
end

section
variable {prog : Program} {w : World} {A₀ A : Around} {s : Shared} {base h₀ g₀ : Heap} {outer : List Env} {L a : Addr} {m : Str → Option Value} {env : Env} {cn : Str} {cs : Scope} {ccd : Value} {news : List (Addr × Obj)} {K : Frag} {p : Program} {loose : List Str} {mean : ExcName → Option Value} {mg mb : Str → Option Value}
    {R : Result → Shared → Prop} {name qual : Str} {params : Arguments} {body : List Stmt} {scope : Scope} {dV kV doc pm cdv ct oc : Value} {an od : Option Addr} {osl : Array (Option Value)} {f : Addr} {args : Args} {binds : List (Str × Value)}

theorem codeK_def (B : Below A₀ base outer h₀) (F : Fr h₀ L s.heap m) (X₀ : K.In h₀) (N : News h₀ L s.heap news) (T : Top p loose mean mg mb h₀) (hA : A.frames = some (env :: outer)) (hf : env.frame = some L) (hke : env.scope.kind = .function)
    (ho : K.lookup f = some ⟨oc, od, .func (fnOf name qual params body scope dV kV doc pm an cdv ct), osl⟩) (hcd : codeIn K cdv qual = true) (hroom : A.depth < recursionLimit)
    (hbind : BindsTo s (fnOf name qual params body scope dV kV doc pm an cdv ct) args binds) (hloc : ∀ y ∈ binds, scope.names.lookup y.1 = some .local)
    (h : ∀ g L' h₁, Fr h₀ L g m → Fr g L' h₁ (fun y => binds.reverse.lookup y) → News g L' h₁ news → Below A base (env :: outer) g → K.In g → Top p loose mean mg mb g →
      wpK (model prog w) (A.deeper (envOf qual scope L' f cdv)) (execs body (envOf qual scope L' f cdv))
        (fun fl s' => LeaveK h₀ L m g R (match fl with | .ret v => v | _ => .none) s')
        (fun e s' => wpAny (model prog w) (A.deeper (envOf qual scope L' f cdv)) (leaving (envOf qual scope L' f cdv) e) (fun _ s'' => R (.error e) s'') (fun e' s'' => R (.error e') s'') s')
        { s with heap := h₁, toks := s.toks + binds.length })
    (hco : scope.isCoroutine = false) (hgen : scope.isGenerator = false) (hk : scope.kind = .function)
    (hcell : ∀ x ∈ scope.names, x.2 ≠ .cell) : codeK (model prog w) A (.call (.ref f) args) R s := by
  have X := X₀.keeps F.keep
  obtain ⟨FG, BG, st, lv⟩ := groundX (R := R) B F N hA hf hke
  refine codeK_call_def (fd := fnOf name qual params body scope dV kV doc pm an cdv ct) (body := body) (binds := binds) hroom (X _ _ ho) rfl (T.nolimit.keeps F.keep) (codeRec_of X hcd) rfl hbind hcell hloc (fun h₁ hns hk₁ => ?_) hco hgen hk
  exact wpK_mono (h _ s.heap.objs.size h₁ FG ⟨hns, fun b o e => hk₁ b o (of_hideAll _ e), Nat.le_of_eq (hideAll_size _ _)⟩
    (fun p hp => ⟨hk₁ _ _ (N p hp).1, Nat.ne_of_lt (Heap.lt_size (N p hp).1), hideAll_none _ (List.mem_map_of_mem hp)⟩) BG (X₀.keeps st) (T.keeps st)) (fun fl s' hl => lv _ _ hl) fun _ _ y => y

theorem codeK_defS0 (B : Below A₀ base [] h₀) (F : Fr h₀ L s.heap m) (X₀ : K.In h₀) (N : News h₀ L s.heap news) (T : Top p loose mean mg mb h₀) (hA : A.frames = some [envOf cn cs L a ccd])
    (ho : K.lookup f = some ⟨oc, od, .func (fnOf name qual params body scope dV kV doc pm an cdv ct), osl⟩) (hcd : codeIn K cdv qual = true) (hroom : A.depth < recursionLimit)
    (hbind : BindsTo s (fnOf name qual params body scope dV kV doc pm an cdv ct) args binds) (hloc : ∀ y ∈ binds, scope.names.lookup y.1 = some .local)
    (h : ∀ g L' h₁, Fr h₀ L g m → Fr g L' h₁ (fun y => binds.reverse.lookup y) → News g L' h₁ news → Below A base [envOf cn cs L a ccd] g → K.In g → Top p loose mean mg mb g → KtsDicts ([envOf cn cs L a ccd].filterMap (·.frame)) g →
      wpK (model prog w) (A.deeper (envOf qual scope L' f cdv)) (execs body (envOf qual scope L' f cdv))
        (fun fl s' => LeaveS0 ([envOf cn cs L a ccd].filterMap (·.frame)) h₀ L m g R (match fl with | .ret v => v | _ => .none) s')
        (fun e s' => wpAny (model prog w) (A.deeper (envOf qual scope L' f cdv)) (leaving (envOf qual scope L' f cdv) e) (fun _ s'' => R (.error e) s'') (fun e' s'' => R (.error e') s'') s')
        { s with heap := h₁, toks := s.toks + binds.length })
    (hck : cs.kind = .function) (hco : scope.isCoroutine = false) (hgen : scope.isGenerator = false) (hk : scope.kind = .function)
    (hcell : ∀ x ∈ scope.names, x.2 ≠ .cell) : codeK (model prog w) A (.call (.ref f) args) R s := by
  have X := X₀.keeps F.keep
  have nL₀ : h₀.get? L = none := kts_self F
  obtain ⟨oL, es, ep, hLg, hLd, hN, hNs, st, B₂⟩ := kts_enter B F N hA hck
  have D₂ : KtsDicts ([envOf cn cs L a ccd].filterMap (·.frame)) (hideAll s.heap (news.map (·.1))) := fun b hb => (kts_mem hb).elim (fun e => ⟨oL, es, ep, e ▸ hLg, hLd⟩) fun e => nomatch e
  refine codeK_call_def (fd := fnOf name qual params body scope dV kV doc pm an cdv ct) (body := body) (binds := binds) hroom (X _ _ ho) rfl (T.nolimit.keeps F.keep) (codeRec_of X hcd) rfl hbind hcell hloc (fun h₁ hns hk₁ => ?_) hco hgen hk
  refine wpK_mono (h _ s.heap.objs.size h₁ ⟨hN _ hLg, st, F.above⟩ ⟨hns, fun b o e => hk₁ b o (of_hideAll _ e), Nat.le_of_eq (hideAll_size _ _)⟩
    (fun p hp => ⟨hk₁ _ _ (N p hp).1, Nat.ne_of_lt (Heap.lt_size (N p hp).1), hideAll_none _ (List.mem_map_of_mem hp)⟩) B₂ (X₀.keeps st) (T.keeps st) D₂) (fun fl s' hl => ?_) fun _ _ y => y
  obtain ⟨g', L', m', news', T', F', N', k⟩ := hl
  obtain ⟨sl, hs⟩ := T'.up hLg
  refine k ⟨hNs sl _ (F'.keep _ _ hs), fun b o e => F'.keep b o (T'.other b o (st b o e) fun q => (kts_mem q).elim (fun z => ?_) fun z => nomatch z), F.above⟩ fun p hp => ⟨(N' p hp).1, fun q => ?_, ?_⟩
  · rw [z, nL₀] at e; cases e
  · have := (N' p hp).2.2; rw [q, hs] at this; cases this
  · cases q : h₀.get? p.1 with
    | none => rfl
    | some o =>
      obtain ⟨sl', hs'⟩ := T'.up (st _ _ q)
      have := (N' p hp).2.2
      rw [hs'] at this; cases this

theorem codeK_defS (B : Below A₀ base outer h₀) (F : Fr h₀ L s.heap m) (X₀ : K.In h₀) (N : News h₀ L s.heap news) (T : Top p loose mean mg mb h₀) (XB : K.In base) (TB : Top p loose mean mg mb base) (D : KtsDicts (outer.filterMap (·.frame)) h₀)
    (T0 : KtsTurn (outer.filterMap (·.frame)) g₀ h₀) (hA : A.frames = some (envOf cn cs L a ccd :: outer))
    (ho : K.lookup f = some ⟨oc, od, .func (fnOf name qual params body scope dV kV doc pm an cdv ct), osl⟩) (hcd : codeIn K cdv qual = true) (hroom : A.depth < recursionLimit)
    (hbind : BindsTo s (fnOf name qual params body scope dV kV doc pm an cdv ct) args binds) (hloc : ∀ y ∈ binds, scope.names.lookup y.1 = some .local)
    (h : ∀ g L' h₁, Fr h₀ L g m → Fr g L' h₁ (fun y => binds.reverse.lookup y) → News g L' h₁ news → Below A base (envOf cn cs L a ccd :: outer) g → K.In g → Top p loose mean mg mb g → KtsDicts ((envOf cn cs L a ccd :: outer).filterMap (·.frame)) g →
      wpK (model prog w) (A.deeper (envOf qual scope L' f cdv)) (execs body (envOf qual scope L' f cdv))
        (fun fl s' => LeaveS ((envOf cn cs L a ccd :: outer).filterMap (·.frame)) A₀ base outer K p loose mean mg mb g₀ h₀ L m g R (match fl with | .ret v => v | _ => .none) s')
        (fun e s' => wpAny (model prog w) (A.deeper (envOf qual scope L' f cdv)) (leaving (envOf qual scope L' f cdv) e) (fun _ s'' => R (.error e) s'') (fun e' s'' => R (.error e') s'') s')
        { s with heap := h₁, toks := s.toks + binds.length })
    (hck : cs.kind = .function) (hco : scope.isCoroutine = false) (hgen : scope.isGenerator = false) (hk : scope.kind = .function)
    (hcell : ∀ x ∈ scope.names, x.2 ≠ .cell) : codeK (model prog w) A (.call (.ref f) args) R s := by
  have X := X₀.keeps F.keep
  have nL₀ : h₀.get? L = none := kts_self F
  obtain ⟨oL, es, ep, hLg, hLd, hN, hNs, st, B₂⟩ := kts_enter B F N hA hck
  have D₂ : KtsDicts ((envOf cn cs L a ccd :: outer).filterMap (·.frame)) (hideAll s.heap (news.map (·.1))) := fun b hb => (kts_mem hb).elim (fun e => ⟨oL, es, ep, e ▸ hLg, hLd⟩) fun e => by
    obtain ⟨o, es', n', ho', hd'⟩ := D b e
    exact ⟨o, es', n', st b o ho', hd'⟩
  refine codeK_call_def (fd := fnOf name qual params body scope dV kV doc pm an cdv ct) (body := body) (binds := binds) hroom (X _ _ ho) rfl (T.nolimit.keeps F.keep) (codeRec_of X hcd) rfl hbind hcell hloc (fun h₁ hns hk₁ => ?_) hco hgen hk
  refine wpK_mono (h _ s.heap.objs.size h₁ ⟨hN _ hLg, st, F.above⟩ ⟨hns, fun b o e => hk₁ b o (of_hideAll _ e), Nat.le_of_eq (hideAll_size _ _)⟩
    (fun p hp => ⟨hk₁ _ _ (N p hp).1, Nat.ne_of_lt (Heap.lt_size (N p hp).1), hideAll_none _ (List.mem_map_of_mem hp)⟩) B₂ (X₀.keeps st) (T.keeps st) D₂) (fun fl s' hl => ?_) fun _ _ y => y
  rcases hl with ⟨L', m', news', F', N', k⟩ | ⟨g', L', m', news', T', F', N', k⟩
  · refine k ⟨hN _ (F'.keep _ _ hLg), fun b o e => F'.keep b o (st b o e), F.above⟩ fun p hp => ⟨(N' p hp).1, fun q => ?_, ?_⟩
    · have := (N' p hp).2.2; rw [q, hLg] at this; cases this
    · cases q : h₀.get? p.1 with
      | none => rfl
      | some o => have := (N' p hp).2.2; rw [st _ _ q] at this; cases this
  · obtain ⟨sl, hs⟩ := T'.up hLg
    obtain ⟨T₁, S₁⟩ := kts_turn_at (h := s'.heap) (fs := outer.filterMap (·.frame)) (g := h₀)
      (fun b hb => by obtain ⟨_, o, ho', _⟩ := B.frames.mem hb; exact ⟨o, ho'⟩)
      (fun b o e nmem => F'.keep b o (T'.other b o (st b o e) fun q => (kts_mem q).elim (fun z => by rw [z, nL₀] at e; cases e) fun z => nmem z))
      (fun b o e hm => by obtain ⟨sl', hs'⟩ := T'.up (st b o e); exact ⟨sl', F'.keep _ _ hs'⟩)
    have B₃ : Below A₀ base outer (ktsHeap s'.heap (outer.filterMap (·.frame)) h₀) := ⟨B.stack, fun b o e => T₁.other b o (B.stays b o e) (fun hm => by rw [(B.frames.mem hm).1] at e; cases e),
      B.frames.of_keeps fun b o e _ => by obtain ⟨sl', hs'⟩ := T₁.up e; exact ⟨_, hs', rfl⟩⟩
    refine k _ (T0.trans T₁) ⟨hNs sl _ (F'.keep _ _ hs), S₁, by rw [T₁.size]; exact F.above⟩ (fun p hp => ⟨(N' p hp).1, fun q => ?_, ?_⟩) B₃ (XB.keeps B₃.stays) (TB.keeps B₃.stays) (D.turn T₁)
    · have := (N' p hp).2.2; rw [q, hs] at this; cases this
    · refine T₁.none_ _ ?_
      cases q : h₀.get? p.1 with
      | none => rfl
      | some o =>
        obtain ⟨sl', hs'⟩ := T'.up (st _ _ q)
        have := (N' p hp).2.2
        rw [hs'] at this; cases this
end

section
variable {M : Model} {A : Around} {E : Value → Shared → Prop} {s : Shared} {K : Frag} {env : Env} {pos : Pos} {f : Value} {first : List Value} {Q : Value → Shared → Prop}
theorem wpK_Call {func : Expr} {args : List Expr}
    (h : wpAny M A (eval func env) (fun f s₁ => wpK M A (callWith pos f [] (backTo pos (starEach args env)) []) Q E s₁) E s)
    (he : eval (.Call func args [] pos) env = (do callWith pos (← eval func env) [] (backTo pos (starEach args env)) (backToKw pos (keywordEach [] env))) := by rfl) :
    wpK M A (eval (.Call func args [] pos) env) Q E s := by
  rw [he]; exact wpK_bindA h
theorem wpK_callWith {e : Expr} {rest : List Expr} (hk : keepIn K f = true)
    (h : wpAny M A (spliced (backTo pos (starEach (e :: rest) env))) (fun vs s₁ => K.In s₁.heap ∧ wpK M A (call f (first ++ vs)) Q E s₁) E s)
    (he : starEach (e :: rest) env = (false, eval e env) :: starEach rest env := by rfl) (hplain : (backTo pos (starEach rest env)).any (·.1) = false := by rfl) :
    wpK M A (callWith pos f first (backTo pos (starEach (e :: rest) env)) []) Q E s := by
  rw [he] at h ⊢
  have hp : ((backTo pos ((false, eval e env) :: starEach rest env)).any (·.1) || ([] : List (Option Str × Sem Value)).any (·.1.isNone)) = false := by
    show ((false || (backTo pos (starEach rest env)).any (·.1)) || false) = false; rw [hplain]; rfl
  unfold callWith
  refine wpK_bindA (wpAny_holding (wpAny_mono (evalArgs_plain (Q := fun a s₁ => K.In s₁.heap ∧ wpK M A (call f (first ++ a.pos) a.kw) Q E s₁) h) (fun a s₁ h₁ => wpK_bind (wpK_standAt ?_)) fun _ _ x => x))
  obtain ⟨k, hk', L⟩ := keeps_K (M := M) hk _ h₁.1
  simp -iota only [hp]
  refine wpK_bindA (L.here ?_)
  have tail : ∀ {t : Sem Value}, wpK M A t Q E s₁ → wpK M A (t >>= fun r => holding [r] point >>= fun _ => pure r) Q E s₁ :=
    fun ht => wpK_bind (wpK_mono ht (fun r s₂ hr => wpK_bindA (wpAny_holding (wpAny_point (wpK_pure hr)))) fun _ _ x => x)
  have marked (mk : Value) : wpK M A (callMarked mk f (first ++ a.pos) a.kw) Q E s₁ := by
    unfold callMarked
    intro Γ p hΓ hC
    rw [Sem.wp_keep]
    exact h₁.2 Γ p hΓ hC
  rcases hk' with rfl | rfl | rfl <;> dsimp only <;> first | exact tail h₁.2 | (split <;> first | exact tail h₁.2 | exact tail (marked _))
theorem wpK_callWithT {T : String} {e : Expr} {rest : List Expr}
    (h : wpAny M A (spliced (backTo pos (starEach (e :: rest) env))) (fun vs s₁ => wpK M A (call (.type T) (first ++ vs)) Q E s₁) E s)
    (he : starEach (e :: rest) env = (false, eval e env) :: starEach rest env := by rfl) (hplain : (backTo pos (starEach rest env)).any (·.1) = false := by rfl) :
    wpK M A (callWith pos (.type T) first (backTo pos (starEach (e :: rest) env)) []) Q E s := by
  rw [he] at h ⊢
  have hp : ((backTo pos ((false, eval e env) :: starEach rest env)).any (·.1) || ([] : List (Option Str × Sem Value)).any (·.1.isNone)) = false := by
    show ((false || (backTo pos (starEach rest env)).any (·.1)) || false) = false; rw [hplain]; rfl
  unfold callWith
  refine wpK_bindA (wpAny_holding (wpAny_mono (evalArgs_plain (Q := fun a s₁ => wpK M A (call (.type T) (first ++ a.pos) a.kw) Q E s₁) h) (fun a s₁ h₁ => wpK_bind (wpK_standAt ?_)) fun _ _ x => x))
  simp -iota only [hp]
  refine wpK_bindA (wpAny_pure ?_)
  exact wpK_bind (wpK_mono h₁ (fun r s₂ hr => wpK_bindA (wpAny_holding (wpAny_point (wpK_pure hr)))) fun _ _ x => x)
end
end
section
open _root_.PySem _root_.PySem.W _root_.PySem.Spec _root_.PySem.Calls _root_.PyProof.Rows _root_.PySem.NumText _root_.PySem.Builtin
namespace IR
theorem slot_bytes_repr : Slot "bytes" "__repr__" "bytes.__repr__" :=
  .of (owner := "bytes") (n := "__repr__") (by rw [typeLookup_type, builtinLookup_eq_fast]; kernel_rfl) (by decide +kernel) (by decide +kernel) (by decide +kernel)
    (by first | exact .inl (by decide +kernel) | exact .inr (by decide +kernel)) (by rw [isSubtype_type]; kernel_rfl)
theorem entry_bytes_repr : entryFor table "bytes.__repr__" = some Builtin.«bytes.__repr__» := entryFor_of_tree (by kernel_rfl)
theorem args_bytes_repr (a : Value) : argsOk "bytes.__repr__" ⟨[a], []⟩ := by
  unfold argsOk; rw [signature?_of (id := "bytes.__repr__") (n := ['_', '_', 'r', 'p', 'e', 'r', '_', '_']) (o := ['s', 'e', 't', 'y', 'b']) (by kernel_rfl) FB.owner_bytes]; kernel_rfl
theorem bytes_int : typeLookup (.type "bytes") "__int__" = pure none := by rw [typeLookup_type, builtinLookup_eq_fast]; kernel_rfl
theorem bytes_idx : typeLookup (.type "bytes") "__index__" = pure none := by rw [typeLookup_type, builtinLookup_eq_fast]; kernel_rfl
theorem bytes_trunc : typeLookup (.type "bytes") "__trunc__" = pure none := by rw [typeLookup_type, builtinLookup_eq_fast]; kernel_rfl

noncomputable def seenB (x : List UInt8) : List Nat := (x.map (·.toNat)).takeWhile (· != 0)
noncomputable def intB (x : List UInt8) : Option Int :=
  if (seenB x).length == (x.map (·.toNat)).length then (digits? 10 (core (seenB x))).map fun ds => worth (sign ((seenB x).dropWhile blank)).1 ds else none
theorem seenB_le (x : List UInt8) : (seenB x).length ≤ x.length := by
  refine Nat.le_trans (len_takeWhile _ _) (Nat.le_of_eq (List.length_map _))
theorem readB (x : List UInt8) (hx : x.length ≤ 640) :
    (∃ n, intB x = some n ∧ ((seenB x).length == (x.map (·.toNat)).length) = true ∧ (int_private% "readNumeral") 0 10 (seenB x) = (int_private% "Numeral.value") n) ∨
    (intB x = none ∧ ((int_private% "readNumeral") 0 10 (seenB x) = int_private% "Numeral.invalid" ∨
      ∃ i, (int_private% "readNumeral") 0 10 (seenB x) = (int_private% "Numeral.value") i ∧ ((seenB x).length == (x.map (·.toNat)).length) = false)) := by
  rw [readNumeral_ten]
  cases hd : digits? 10 (core (seenB x)) with
  | none =>
    refine Or.inr ⟨?_, Or.inl judge_none⟩
    unfold intB; rw [hd]; split <;> rfl
  | some ds =>
    have h1 := digits_size hd
    have h2 := core_length (seenB x)
    have h3 := seenB_le x
    have hj := judge_ok (l := 0) (n := (sign ((seenB x).dropWhile blank)).1) (ds := ds) (Or.inl rfl) (by lia)
    by_cases hall : ((seenB x).length == (x.map (·.toNat)).length) = true
    · exact Or.inl ⟨_, by unfold intB; rw [if_pos hall, hd]; rfl, hall, hj⟩
    · exact Or.inr ⟨by unfold intB; rw [if_neg hall], Or.inr ⟨_, hj, Bool.eq_false_iff.mpr hall⟩⟩

theorem int_tree (b : Array UInt8) (u : Tok) :
    Builtin.«int.__new__» ⟨[.type "int", .bytes b u], []⟩ = ((int_private% "intFromText") (.bytes b u) (b.toList.map (·.toNat)) 10 >>= fun v => ret v) := by
  have f1 := F.conv_sub_int
  have f2 := F.madeHere_int
  have e1 : callSpecial? (.bytes b u) "__int__" = pure none := by
    show (typeLookup (.type "bytes") "__int__" >>= _) = _
    rw [bytes_int]; rfl
  have e2 : specialOf (.bytes b u) "__index__" = pure none := bytes_idx
  have e3 : specialOf (.bytes b u) "__trunc__" = pure none := bytes_trunc
  have e4 : (int_private% "numeralText?") (.bytes b u) = pure (some (b.toList.map (·.toNat))) := rfl
  have e5 : (int_private% "intFromObject") (.bytes b u) = (int_private% "intFromText") (.bytes b u) (b.toList.map (·.toNat)) 10 := by
    show (callSpecial? (.bytes b u) "__int__" >>= _) = _
    rw [e1]
    show (specialOf (.bytes b u) "__index__" >>= _) = _
    rw [e2]
    show (specialOf (.bytes b u) "__trunc__" >>= _) = _
    rw [e3]
    rfl
  show (isSubtype (.type "int") (.type "int") >>= _) = _
  rw [f1]
  show (Bind.madeHere "int.__new__" (.type "int") >>= _) = _
  rw [f2]
  show ((int_private% "intFromObject") (.bytes b u) >>= _) = _
  rw [e5]
  rfl

theorem gives_bytes_int {x : List UInt8} {u : Tok} {n : Int} (hl : x.length ≤ 640) (hn : intB x = some n) : Gives (Builtin.«int.__new__» ⟨[.type "int", .bytes x.toArray u], []⟩) (.int n) :=
  .of_wp fun M A E s Q h => by
    rw [int_tree]
    have hr : (int_private% "readNumeral") 0 10 (seenB x) = (int_private% "Numeral.value") n ∧ ((seenB x).length == (x.map (·.toNat)).length) = true := by
      rcases readB x hl with ⟨m, h1, h2, h3⟩ | ⟨h1, _⟩
      · rw [hn] at h1; cases h1; exact ⟨h3, h2⟩
      · rw [hn] at h1; cases h1
    refine wpAny_bind (W.KIN.wp_text (Nat.le_trans (seenB_le x) hl) hr.1 hr.2 ?_)
    exact wpAny_pure ⟨_, rfl, h⟩
section
variable {prog : Program} {w : World} {A : Around} {E : Value → Shared → Prop} {s : Shared}
theorem call_int_bytes {x : List UInt8} {u : Tok} {n : Int} {Q : Value → Shared → Prop} (hl : x.length ≤ 640) (hn : intB x = some n) (h : Q (.int n s.toks) { s with toks := s.toks + 1 }) :
    wpAny (model prog w) A (call (.type "int") [.bytes x.toArray u]) Q E s :=
  call_int_1 (gives_bytes_int hl hn).meets (show (Made.int n).post _ s from ⟨rfl, h⟩)

theorem gives_bytes_repr (b : Array UInt8) (t : Tok) (hz : 4 * b.size + 3 ≤ sizeLine) : Gives («bytes.__repr__» ⟨[.bytes b t], []⟩) (.str (Bytes.literal b)) := by
  refine .of_wp fun M A E s Q hq => ?_
  show wpAny M A ((do let x ← Bytes.literalAsked b; retStr x) : Sem Fin) _ E s
  have e : Bytes.literalAsked b = pure (Bytes.literal b) := by
    unfold Bytes.literalAsked
    have : Bytes.tooLong (4 * b.size + 3 + 0) = false := by unfold Bytes.tooLong; exact decide_eq_false (by omega)
    rw [this]; rfl
  rw [e]
  refine wpAny_bind (wpAny_pure ?_)
  exact wpAny_bind (wpAny_mkStr (wpAny_pure ⟨_, rfl, hq.2⟩) hq.1)
theorem fold_grow {α β : Type} (f : β → Array α) (k : Nat) (hf : ∀ c, (f c).size ≤ k) : ∀ (l : List β) (a : Array α), (l.foldl (fun acc c => acc ++ f c) a).size ≤ a.size + k * l.length
  | [], a => Nat.le_add_right _ _
  | c :: l, a => by
    rw [List.foldl_cons]
    refine Nat.le_trans (fold_grow f k hf l _) ?_
    rw [Array.size_append, List.length_cons, Nat.mul_add]
    have := hf c
    lia
theorem literal_length (b : Array UInt8) : (Bytes.literal b).length ≤ 4 * b.size + 3 := by
  show (Array.push _ _).size ≤ _
  rw [Array.size_push, ← Array.foldl_toList]
  refine Nat.le_trans (Nat.succ_le_succ (fold_grow (fun c : UInt8 => _) 4 (fun c => ?_) b.toList _)) ?_
  · dsimp only
    (repeat' split) <;> exact Nat.le_of_ble_eq_true rfl
  · rw [Array.length_toList]
    show 2 + 4 * b.size + 1 ≤ _
    lia
theorem pyRepr_bytes {b : Array UInt8} {t : Tok} {Q : Str → Shared → Prop} (hz : 4 * b.size + 3 ≤ sizeLine) (h : Q (Bytes.literal b) { s with toks := s.toks + 1 }) : wpAny (model prog w) A (pyRepr (.bytes b t)) Q E s := by
  unfold pyRepr
  exact wpAny_bind (wpAny_pyReprObj_gives (typeIs_bytes s b t) slot_bytes_repr entry_bytes_repr (args_bytes_repr _) (gives_bytes_repr b t hz) (wpAny_pure h) rfl (Nat.le_trans (literal_length b) hz))

noncomputable def StrictIn (M : Model) (h : Heap) : Prop := Looks M h (Builtin._codecs.theHandlerIsTheBuiltInOne "strict") true

noncomputable def refuse (pre : Str) (b : Array UInt8) : Sem Value := do
  rule "int.__new__.invalid-literal"
  let shown ← pyRepr (← mkBytes b)
  let refusal ← newExc (.type "ValueError") [← mkStr (pre ++ (⟨shown.cps.extract 0 200⟩ : Str))]
  markTheRefusal ["int.__new__"] refusal
  raiseNew refusal
theorem wpK_refuse {pre : Str} {b : Array UInt8} {Q : Value → Shared → Prop} (hp : pre.length ≤ 1000) (hb : b.size ≤ 1000) (hh : A.handled = none)
    (h : ∀ h' tk e vs, Heap.MadeExc s.heap h' e "ValueError" vs → E (.ref e) { s with heap := h', toks := tk }) : wpK (model prog w) A (refuse pre b) Q E s := by
  unfold refuse
  refine wpK_bindA (wpAny_rule ?_)
  refine wpK_bindA (wpAny_mkBytes ?_ (by rw [sizeLine_eq]; omega))
  refine wpK_bindA (pyRepr_bytes (by rw [sizeLine_eq]; omega) ?_)
  refine wpK_bindA (wpAny_mkStr ?_ (by
    rw [Str.length_append, sizeLine_eq]
    have : (⟨(Bytes.literal b).cps.extract 0 200⟩ : Str).length ≤ 200 := by
      show (Array.extract _ _ _).size ≤ 200
      rw [Array.size_extract]; lia
    lia))
  refine wpK_bindA (wpAny_newExc_plain plainExc_ValueError (fun h' e hx => ?_))
  refine wpK_bind (wpK_mark ?_)
  exact wpK_of (wpAny_raiseNew_none hh (h _ _ _ _ hx))
noncomputable def preT : Str := (toString "invalid literal for int() with base " ++ toString 10 ++ toString ": " : String)
theorem preT_length : preT.length ≤ 1000 := by decide +kernel

theorem wpK_text_bad {x : List UInt8} {u : Tok} {Q : Value → Shared → Prop} (hl : x.length ≤ 640) (hn : intB x = none) (hh : A.handled = none) (hS : StrictIn (model prog w) s.heap)
    (h : ∀ h' tk e vs, Heap.MadeExc s.heap h' e "ValueError" vs → E (.ref e) { s with heap := h', toks := tk }) :
    wpK (model prog w) A ((int_private% "intFromText") (.bytes x.toArray u) (x.map (·.toNat)) 10) Q E s := by
  have tl : wpK (model prog w) A (refuse preT (x.toArray.extract 0 200)) Q E s :=
    wpK_refuse preT_length (by rw [Array.size_extract, List.size_toArray]; lia) hh h
  have hs : (seenB x).length ≤ 640 := Nat.le_trans (seenB_le x) hl
  show wpK _ _ (if (seenB x).length ≤ 640 then (pure 0 >>= _) else _) _ _ _
  rw [if_pos hs]
  refine wpK_bindA (wpAny_pure ?_)
  dsimp only
  rcases readB x hl with ⟨m, h1, _⟩ | ⟨_, h1 | ⟨i, h1, h2⟩⟩
  · rw [hn] at h1; cases h1
  · unfold seenB at h1
    rw [h1]
    dsimp only
    refine wpK_bindA (m := (int_private% "bytesOf?") _) (wpAny_pure ?_)
    split
    · refine wpK_bindA (hS.here ?_)
      exact tl
    · exact tl
  · unfold seenB at h1 h2
    rw [h1]
    dsimp only
    rw [h2]
    exact tl

theorem codeK_builtin_at {id : String} {args : Args} {b : Builtin} {R : Result → Shared → Prop} (hb : entryFor table id = some b)
    (h : wpK (model prog w) (A.under (.builtin id args)) (b args)
      (fun fin s' => match fin with | .done f => R (.ok f) s' | .again c' => c'.quiet = true ∧ codeK (model prog w) A c' R s') (fun e s' => R (.error e) s') s) :
    codeK (model prog w) A (.builtin id args) R s := by
  refine codeK_of_tree ?_
  show wpK _ _ (match entryFor table id with | some b => b args | none => unsupported ((withoutEnding? id "#data").getD id)) _ _ s
  rw [hb]; exact h

theorem wpK_int_bad {x : List UInt8} {u : Tok} {Q : Value → Shared → Prop} (hl : x.length ≤ 640) (hn : intB x = none) (hh : A.handled = none) (hS : StrictIn (model prog w) s.heap)
    (h : ∀ h' tk e vs, Heap.MadeExc s.heap h' e "ValueError" vs → E (.ref e) { s with heap := h', toks := tk }) :
    wpK (model prog w) A (call (.type "int") [.bytes x.toArray u]) Q E s := by
  have ft := F.called_int
  obtain ⟨c, tl, hmro⟩ := ft.mro
  refine wpK_call (codeK_of_tree ?_)
  show wpK _ _ (callAny (.type "int") _) _ _ _
  refine wpK_pure ⟨Code.quiet_builtin _ (by decide +kernel), codeK_builtin_at F.entry_type_call ?_⟩
  rw [Around.under_plain (weight_type_call_type "int" _ []) (units_type_call_type "int" _ [])]
  unfold Builtin.«type.__call__»
  dsimp only
  have h1 := ft.notType
  have h2 := ft.canCreate
  rw [if_neg (by rw [h1]; exact Bool.false_ne_true), if_neg (by rw [h2]; exact Bool.false_ne_true)]
  refine wpK_bindA (wpAny_of_eq (F.typeCall_int_1 _) ?_)
  refine wpK_bindA (wpAny_of_eq hmro ?_)
  rw [if_neg (by exact Bool.false_ne_true)]
  refine wpK_bindA (wpAny_of_eq ft.made ?_)
  dsimp only
  refine wpK_bindA (wpAny_pure ?_)
  refine wpK_bind (wpK_holding (wpK_call (codeK_of_tree ?_)))
  show wpK _ A.in1.in1 (checkBuiltinCall "int.__new__" _ >>= _) _ _ _
  refine wpK_bindA (wpAny_of_eq (F.newCall_int_1 _) (wpK_pure ⟨plainId_quiet ft.plain _, codeK_builtin_at F.entry_int_new ?_⟩))
  rw [Around.under_plainId ft.plain, int_tree]
  exact wpK_bind (wpK_mono (wpK_text_bad (Q := fun _ _ => False) (E := fun e s' => E e s') hl hn hh hS h) (fun _ _ z => z.elim) fun _ _ z => z)
end
theorem strict_in {w : World} {h : Heap} (X : (hd.heap_1 w.params).In h) : StrictIn (model Challenge.rw_ai0005_01.row.prog w) h :=
  Looks.of_peek X (by kernel_rfl)
end IR
end
section
open _root_.PySem _root_.PySem.W _root_.PySem.Spec _root_.PySem.Calls _root_.PyProof.Rows _root_.PySem.Builtin
namespace BY
noncomputable def cut (lo hi : Option Int) (x : List UInt8) : List UInt8 :=
  (x.drop (lo.elim 0 (clipAt x.length))).take (hi.elim x.length (clipAt x.length) - lo.elim 0 (clipAt x.length))
theorem cut_length (lo hi : Option Int) (x : List UInt8) : (cut lo hi x).length ≤ x.length := by
  unfold cut; rw [List.length_take, List.length_drop]; exact Nat.le_trans (Nat.min_le_right _ _) (Nat.sub_le _ _)
theorem clip_nat (n k : Nat) : clipAt n (k : Int) = min k n := by
  unfold clipAt
  rw [if_neg (Int.not_lt.mpr (Int.natCast_nonneg k))]
  rcases Nat.le_total k n with h | h
  · rw [Int.min_eq_left (Int.ofNat_le.mpr h), Nat.min_eq_left h, Int.max_eq_right (Int.natCast_nonneg _)]; rfl
  · rw [Int.min_eq_right (Int.ofNat_le.mpr h), Nat.min_eq_right h, Int.max_eq_right (Int.natCast_nonneg _)]; rfl
theorem picked_cut (x : List UInt8) (lo hi : Option Int) : KBy.picked x.toArray lo hi = (cut lo hi x).toArray := by
  rw [KBc.picked_eq]; rfl
section
variable {prog : Program} {w : World} {A : Around} {E : Value → Shared → Prop} {s : Shared} {value slice : PySem.Expr} {x y : List UInt8} {t u : Tok} {h₀ : Heap} {L : Addr} {m : PySem.Str → Option Value} {news : List (Addr × Obj)} {l v : Value} {lo hi : Option Int} {Q : Value → Shared → Prop} {i : Int}
theorem slice_L (hF : Fr h₀ L s.heap m) (hN : News h₀ L s.heap news) (hl : PySem.IsPart l lo) (hu : PySem.IsPart v hi) (hz : x.length ≤ 16777216)
    (h : ∀ h' t' k, Fr h₀ L h' m → News h₀ L h' news → (cut lo hi x).length ≤ x.length → Q (.bytes (cut lo hi x).toArray t') { s with heap := h', toks := k })
    (hs : subscripted slice false (.bytes x.toArray t) (.ref s.heap.objs.size) = operate [.ref s.heap.objs.size, .bytes x.toArray t] (getItem (.bytes x.toArray t) (.ref s.heap.objs.size)) := by with_unfolding_all rfl)
    (ht : ∀ r, letTemporaryGo value (.bytes x.toArray t) r = pure () := by intro _; with_unfolding_all rfl) :
    wpAny (model prog w) A (subscriptTail value slice (.bytes x.toArray t) (.ref s.heap.objs.size)) Q E { s with heap := s.heap.push { cls := .type "slice", data := .fields #[l, v, .none] } } :=
  KBc.slice_K hF hN rfl hl hu (by rw [KBw.ints_list, List.length_map]; exact hz) (fun h' t' k F' N' _ => by rw [picked_cut]; exact h h' t' k F' N' (cut_length ..)) hs ht
theorem add_L (hsz : x.length + y.length ≤ 16777216) (h : ∀ t' k, Q (.bytes (x ++ y).toArray t') { s with toks := k }) : wpAny (model prog w) A (binaryOp .Add (.bytes x.toArray t) (.bytes y.toArray u)) Q E s := by
  refine KBy.add_bytes (by rw [List.size_toArray, List.size_toArray]; exact hsz) fun t' k => ?_
  rw [List.append_toArray]
  exact h t' k
theorem item_L (hfit : x.length ≤ 1099511627776) (h0 : 0 ≤ i) (h1 : i < (x.length : Int)) (h : ∀ t' k, Q (.int ((x.getD i.toNat 0).toNat : Int) t') { s with toks := k })
    (hs : subscripted slice false (.bytes x.toArray t) (.int i u) = operate [.bytes x.toArray t, .int i u] (getItem (.bytes x.toArray t) (.int i u)) := by with_unfolding_all rfl)
    (ht : ∀ r, letTemporaryGo value (.bytes x.toArray t) r = pure () := by intro _; with_unfolding_all rfl) :
    wpAny (model prog w) A (subscriptTail value slice (.bytes x.toArray t) (.int i u)) Q E s := KBy.item_N hfit h0 h1 (h _ _) hs ht
theorem eq_L (h : Q (.bool (decide (x = y))) s) : wpAny (model prog w) A (compareOp .Eq (.bytes x.toArray t) (.bytes y.toArray u)) Q E s :=
  eq_bytes (by show Q (.bool (x == y)) s; rwa [show (x == y) = decide (x = y) by by_cases e : x = y <;> simp [e]])
theorem ne_L (h : Q (.bool (decide (x ≠ y))) s) : wpAny (model prog w) A (compareOp .NotEq (.bytes x.toArray t) (.bytes y.toArray u)) Q E s :=
  ne_bytes (by show Q (.bool (x != y)) s; rwa [show (x != y) = decide (x ≠ y) by by_cases e : x = y <;> simp [e]])
theorem gives_contains (c : Int) (h0 : 0 ≤ c) (h1 : c < 256) : Gives («bytes.__contains__» ⟨[.bytes x.toArray t, .int c u], []⟩) (.val (.bool (decide (c.toNat.toUInt8 ∈ x)))) := by
  refine .of_wp fun M A E s Q hq => ?_
  show wpAny M A (Bytes.containsIn "bytes.__contains__" (.bytes x.toArray t) (.int c u) >>= fun b => ret (.bool b)) _ E s
  have e : Bytes.containsIn "bytes.__contains__" (.bytes x.toArray t) (.int c u) = pure (decide (c.toNat.toUInt8 ∈ x)) := by
    unfold Bytes.containsIn
    have e1 : (asIndex (.int c u)).attempt = pure (.ok c) := rfl
    rw [e1]
    show (Bytes.buffer? "bytes.__contains__" (.bytes x.toArray t) >>= _) = _
    rw [KBy.buffer_eq]
    show (if (decide (c < 0) || decide (c ≥ 256)) = true then _ else pure (x.toArray.contains c.toNat.toUInt8)) = _
    rw [if_neg (by simp; (first | lia | omega))]
    congr 1
    simp
  rw [e]
  exact wpAny_bind (wpAny_pure (wpAny_pure ⟨_, rfl, hq⟩))
theorem notIn_L {c : Int} (h0 : 0 ≤ c) (h1 : c < 256) (h : Q (.bool (!decide (c.toNat.toUInt8 ∈ x))) s) : wpAny (model prog w) A (compareOp .NotIn (.int c u) (.bytes x.toArray t)) Q E s :=
  notIn_gives (typeIs_bytes s _ t) FB.slot_bytes_contains FB.entry_bytes_contains (FB.args_bytes_contains_2 _ _) (gives_contains c h0 h1) h
theorem notIn_B {c : UInt8} (h : Q (.bool (!decide (c ∈ x))) s) : wpAny (model prog w) A (compareOp .NotIn (.int ((c.toNat : Nat) : Int) u) (.bytes x.toArray t)) Q E s :=
  notIn_L (Int.natCast_nonneg _) (by have := c.toNat_lt; (first | lia | omega)) (by
    have e : ((c.toNat : Nat) : Int).toNat.toUInt8 = c := by rw [Int.toNat_natCast]; exact UInt8.ofNat_toNat
    rw [e]; exact h)
end
end BY
end
section
open _root_.PySem _root_.PySem.Builtin
namespace PL
noncomputable def lastSp (d : UInt8) : List UInt8 → Option (List UInt8 × List UInt8)
  | [] => none
  | c :: l => match lastSp d l with
    | some z => some (c :: z.1, z.2)
    | none => if c = d then some ([], l) else none
noncomputable def lastMark : List UInt8 → Option (List UInt8 × List UInt8)
  | [] => none
  | c :: l => match lastMark l with
    | some z => some (c :: z.1, z.2)
    | none => if c = 62 ∧ l.head? = some 32 then some ([], l.tail) else none
noncomputable def splitC (d : UInt8) : List UInt8 → List (List UInt8)
  | [] => [[]]
  | c :: l => if c = d then [] :: splitC d l else (c :: (splitC d l).headD []) :: (splitC d l).tail
noncomputable def joinC (sep : List UInt8) : List (List UInt8) → List UInt8
  | [] => []
  | [x] => x
  | x :: y :: r => x ++ sep ++ joinC sep (y :: r)

theorem lastMark_cons (c : UInt8) (l : List UInt8) : lastMark (c :: l) = match lastMark l with
    | some z => some (c :: z.1, z.2)
    | none => if c = 62 ∧ l.head? = some 32 then some ([], l.tail) else none := rfl
theorem lastSp_cons (d c : UInt8) (l : List UInt8) : lastSp d (c :: l) = match lastSp d l with
    | some z => some (c :: z.1, z.2)
    | none => if c = d then some ([], l) else none := rfl
theorem find_rev_succ (p : Nat → Bool) (n : Nat) : (List.range (n + 1)).reverse.find? p = (((List.range n).reverse.find? fun i => p (i + 1)).map (· + 1)).or (if p 0 then some 0 else none) := by
  rw [List.range_succ_eq_map, List.reverse_cons, List.find?_append, ← List.map_reverse, List.find?_map]
  congr 1
  cases h : p 0 <;> simp [h]

theorem lastMark_idx : ∀ l : List UInt8, ((List.range (l.length - 1)).reverse.find? fun i => decide ((l.drop i).take 2 = [62, 32])) = (lastMark l).map fun z => z.1.length
  | [] => rfl
  | [c] => by
    show none = _
    simp [lastMark]
  | c :: e :: l => by
    have ih := lastMark_idx (e :: l)
    have hn : (c :: e :: l).length - 1 = ((e :: l).length - 1) + 1 := by simp
    rw [hn, find_rev_succ]
    simp only [List.drop_succ_cons]
    rw [ih, lastMark_cons c]
    cases hm : lastMark (e :: l) with
    | some z => simp
    | none =>
      simp only [Option.map_none, Option.none_or, List.drop_zero]
      by_cases h : c = 62 ∧ e = 32
      · obtain ⟨rfl, rfl⟩ := h; simp
      · have h1 : ¬ ([c, e] : List UInt8) = [62, 32] := fun q => h (by simpa using q)
        have h2 : ¬ (c = 62 ∧ (e :: l).head? = some 32) := fun q => h (by simpa using q)
        simp only [if_neg h2, Option.map_none]
        show (if decide ([c, e] = ([62, 32] : List UInt8)) = true then some 0 else none) = none
        rw [decide_eq_false h1]; rfl
theorem lastSp_idx (d : UInt8) : ∀ l : List UInt8, ((List.range l.length).reverse.find? fun i => decide ((l.drop i).take 1 = [d])) = (lastSp d l).map fun z => z.1.length
  | [] => rfl
  | c :: l => by
    have ih := lastSp_idx d l
    rw [List.length_cons, find_rev_succ]
    simp only [List.drop_succ_cons]
    rw [ih, lastSp_cons d c]
    cases hm : lastSp d l with
    | some z => simp
    | none =>
      simp only [Option.map_none, Option.none_or, List.drop_zero]
      by_cases h : c = d
      · subst h; simp
      · have h1 : ¬ ([c] : List UInt8) = [d] := fun q => h (by simpa using q)
        simp only [if_neg h, Option.map_none]
        show (if decide ([c] = ([d] : List UInt8)) = true then some 0 else none) = none
        rw [decide_eq_false h1]; rfl
theorem lastMark_eq : ∀ {l p r : List UInt8}, lastMark l = some (p, r) → l = p ++ 62 :: 32 :: r
  | [], _, _, h => nomatch h
  | c :: l, p, r, h => by
    rw [lastMark_cons] at h
    cases hm : lastMark l with
    | some z =>
      rw [hm] at h
      cases h
      rw [List.cons_append, ← lastMark_eq hm]
    | none =>
      rw [hm] at h
      dsimp only at h
      split at h
      · rename_i q
        cases h
        obtain ⟨rfl, q⟩ := q
        cases l with
        | nil => cases q
        | cons e l => simp at q; subst q; rfl
      · cases h
theorem lastSp_eq {d : UInt8} : ∀ {l p r : List UInt8}, lastSp d l = some (p, r) → l = p ++ d :: r
  | [], _, _, h => nomatch h
  | c :: l, p, r, h => by
    rw [lastSp_cons] at h
    cases hm : lastSp d l with
    | some z =>
      rw [hm] at h
      cases h
      rw [List.cons_append, ← lastSp_eq hm]
    | none =>
      rw [hm] at h
      dsimp only at h
      split at h
      · rename_i q; subst q; cases h; rfl
      · cases h

theorem extract_eq (x sub : List UInt8) (i : Nat) : (x.toArray.extract i (i + sub.length) == sub.toArray) = decide ((x.drop i).take sub.length = sub) := by
  have : x.toArray.extract i (i + sub.length) = ((x.drop i).take sub.length).toArray := by
    apply Array.ext'
    rw [Array.toList_extract]
    simp
  rw [this]
  by_cases h : (x.drop i).take sub.length = sub
  · rw [decide_eq_true h, h]; simp
  · rw [decide_eq_false h]
    simp [h]
theorem rfind_mark (x : List UInt8) : Bytes.rfind? x.toArray #[62, 32] 0 x.length = (lastMark x).map fun z => z.1.length := by
  unfold Bytes.rfind?
  rw [← lastMark_idx]
  have e : (List.range (x.length + 1 - (0 + (#[62, 32] : Array UInt8).size))).map (· + 0) = List.range (x.length - 1) := by
    simp
  rw [e]
  congr 1
  funext i
  exact extract_eq x [62, 32] i
theorem occ_right_one (x : List UInt8) (d : UInt8) : Bytes.occurrencesFromRight x.toArray #[d] 1 = ((lastSp d x).map fun z => z.1.length).toList := by
  unfold Bytes.occurrencesFromRight
  rw [← lastSp_idx]
  have e : List.range (x.toArray.size + 1 - (#[d] : Array UInt8).size) = List.range x.length := by simp
  rw [e]
  have hall : ∀ i ∈ (List.range x.length).reverse, i + 1 ≤ x.toArray.size := fun i hi => by
    rw [List.mem_reverse, List.mem_range] at hi; rw [List.size_toArray]; omega
  have go : ∀ (L : List Nat), (∀ i ∈ L, i + 1 ≤ x.toArray.size) → (L.foldl (fun (acc : List Nat × Nat) i => if acc.1.length < 1 && i + (#[d] : Array UInt8).size ≤ acc.2 && x.toArray.extract i (i + (#[d] : Array UInt8).size) == #[d] then (i :: acc.1, i) else acc) ([], x.toArray.size)).1 = (L.find? fun i => decide ((x.drop i).take 1 = [d])).toList := by
    have stop : ∀ (L : List Nat) (a : Nat) (k : Nat), (L.foldl (fun (acc : List Nat × Nat) i => if acc.1.length < 1 && i + (#[d] : Array UInt8).size ≤ acc.2 && x.toArray.extract i (i + (#[d] : Array UInt8).size) == #[d] then (i :: acc.1, i) else acc) ([a], k)) = ([a], k) := by
      intro L
      induction L with
      | nil => intros; rfl
      | cons i L ih => intro a k; rw [List.foldl_cons]; simpa using ih a k
    intro L
    induction L with
    | nil => intro _; rfl
    | cons i L ih =>
      intro h
      rw [List.foldl_cons]
      have h1 := h i (.head _)
      have h2 := extract_eq x [d] i
      simp only [List.length_singleton] at h2
      have h3 : (x.toArray.extract i (i + (#[d] : Array UInt8).size) == #[d]) = decide ((x.drop i).take 1 = [d]) := h2
      rw [h3]
      by_cases q : (x.drop i).take 1 = [d]
      · rw [List.find?_cons_of_pos (by rw [decide_eq_true q])]
        rw [if_pos (by rw [decide_eq_true q]; simp; exact h1)]
        rw [stop]; rfl
      · rw [List.find?_cons_of_neg (by rw [decide_eq_false q]; exact Bool.false_ne_true)]
        rw [if_neg (by rw [decide_eq_false q]; simp)]
        exact ih fun j hj => h j (.tail _ hj)
  exact go _ hall

theorem splitC_cons (d c : UInt8) (l : List UInt8) : splitC d (c :: l) = if c = d then [] :: splitC d l else (c :: (splitC d l).headD []) :: (splitC d l).tail := rfl
theorem splitC_ne (d : UInt8) : ∀ l, splitC d l ≠ []
  | [] => by simp [splitC]
  | c :: l => by rw [splitC_cons]; split <;> simp
theorem splitC_free {d : UInt8} : ∀ {l : List UInt8}, d ∉ l → splitC d l = [l]
  | [], _ => rfl
  | c :: l, h => by
    have h1 : ¬ c = d := fun e => h (e ▸ .head _)
    rw [splitC_cons, if_neg h1, splitC_free fun q => h (.tail _ q)]; rfl
theorem splitC_app {d : UInt8} : ∀ {p : List UInt8} (r : List UInt8), d ∉ p → splitC d (p ++ d :: r) = p :: splitC d r
  | [], r, _ => by rw [List.nil_append, splitC_cons, if_pos rfl]
  | c :: p, r, h => by
    have h1 : ¬ c = d := fun e => h (e ▸ .head _)
    rw [List.cons_append, splitC_cons, if_neg h1, splitC_app r fun q => h (.tail _ q)]; rfl

noncomputable def btw (b : Array UInt8) (st : Array (Array UInt8) × Nat) (places : List Nat) : List (Array UInt8) :=
  let z := places.foldl (fun (z : Array (Array UInt8) × Nat) p => (z.1.push (b.extract z.2 p), p + 1)) st
  (z.1.push (b.extract z.2 b.size)).toList
theorem between_btw (b : Array UInt8) (places : List Nat) : Bytes.between b 1 places = btw b (#[], 0) places := rfl
theorem btw_split (x : List UInt8) (d : UInt8) : ∀ (n i : Nat) (parts : Array (Array UInt8)) (last : Nat), i + n = x.length → last ≤ i → d ∉ (x.drop last).take (i - last) →
    btw x.toArray (parts, last) ((List.range' i n).filter fun j => decide ((x.drop j).take 1 = [d])) = parts.toList ++ (splitC d (x.drop last)).map List.toArray
  | 0, i, parts, last, hi, hl, hf => by
    have e : x.toArray.extract last x.toArray.size = (x.drop last).toArray := by
      apply Array.ext'; simp only [Array.toList_extract, List.size_toArray, List.extract_eq_take_drop]
      exact List.take_of_length_le (by rw [List.length_drop]; lia)
    have hd : d ∉ x.drop last := by
      have : (x.drop last).take (i - last) = x.drop last := List.take_of_length_le (by rw [List.length_drop]; lia)
      rwa [this] at hf
    show (parts.push (x.toArray.extract last x.toArray.size)).toList = _
    rw [splitC_free hd, e]; simp
  | n + 1, i, parts, last, hi, hl, hf => by
    have hlt : i < x.length := hi ▸ Nat.lt_add_of_pos_right (Nat.succ_pos n)
    have hi' : i + 1 + n = x.length := by rw [Nat.add_right_comm]; exact hi
    rw [List.range'_succ]
    have hget : (x.drop i).take 1 = [x[i]] := by
      rw [List.drop_eq_getElem_cons hlt]; rfl
    by_cases q : x[i] = d
    · rw [List.filter_cons_of_pos (by rw [hget, q]; simp)]
      have hseg : x.drop last = (x.drop last).take (i - last) ++ d :: x.drop (i + 1) := by
        conv => lhs; rw [← List.take_append_drop (i - last) (x.drop last)]
        congr 1
        rw [List.drop_drop, show last + (i - last) = i from Nat.add_sub_cancel' hl, List.drop_eq_getElem_cons hlt, q]
      have e : x.toArray.extract last i = ((x.drop last).take (i - last)).toArray := by apply Array.ext'; simp
      show btw x.toArray (parts.push (x.toArray.extract last i), i + 1) _ = _
      rw [btw_split x d n (i + 1) _ (i + 1) hi' (Nat.le_refl _) (by simp), hseg, splitC_app _ hf, e]
      simp
    · rw [List.filter_cons_of_neg (by rw [hget]; simpa using q)]
      refine btw_split x d n (i + 1) parts last hi' (Nat.le_succ_of_le hl) ?_
      rw [Nat.succ_sub hl]
      intro hm
      rw [List.take_add_one, List.mem_append] at hm
      rcases hm with hm | hm
      · exact hf hm
      · rw [List.getElem?_drop, show last + (i - last) = i from Nat.add_sub_cancel' hl, List.getElem?_eq_getElem hlt] at hm
        simp at hm
        exact q hm.symm
theorem occ_filter (x : List UInt8) (d : UInt8) : Bytes.occurrences x.toArray #[d] 0 x.length = (List.range' 0 x.length).filter fun j => decide ((x.drop j).take 1 = [d]) := by
  unfold Bytes.occurrences
  have e : (List.range (x.length + 1 - (0 + (#[d] : Array UInt8).size))).map (· + 0) = List.range' 0 x.length := by
    rw [List.range_eq_range']; simp
  rw [e]
  have go : ∀ (n i : Nat) (acc : List Nat) (k : Nat), k ≤ i → ((List.range' i n).foldl (fun (acc : List Nat × Nat) i => if i ≥ acc.2 && x.toArray.extract i (i + (#[d] : Array UInt8).size) == #[d] then (i :: acc.1, i + (#[d] : Array UInt8).size) else acc) (acc, k)).1.reverse = acc.reverse ++ (List.range' i n).filter fun j => decide ((x.drop j).take 1 = [d]) := by
    intro n
    induction n with
    | zero => intro i acc k _; simp
    | succ n ih =>
      intro i acc k hk
      rw [List.range'_succ, List.foldl_cons]
      have h3 : (x.toArray.extract i (i + (#[d] : Array UInt8).size) == #[d]) = decide ((x.drop i).take 1 = [d]) := extract_eq x [d] i
      rw [h3]
      by_cases q : (x.drop i).take 1 = [d]
      · rw [if_pos (by rw [decide_eq_true q]; simp; exact hk), List.filter_cons_of_pos (by rw [decide_eq_true q])]
        refine (ih (i + 1) (i :: acc) (i + 1) (Nat.le_refl _)).trans ?_
        simp
      · rw [if_neg (by rw [decide_eq_false q]; simp), List.filter_cons_of_neg (by rw [decide_eq_false q]; exact Bool.false_ne_true)]
        exact ih (i + 1) acc k (Nat.le_succ_of_le hk)
  have := go x.length 0 [] 0 (Nat.le_refl _)
  simpa using this
theorem split_eq (x : List UInt8) (d : UInt8) : Bytes.between x.toArray 1 (Bytes.occurrences x.toArray #[d] 0 x.length) = (splitC d x).map List.toArray := by
  rw [between_btw, occ_filter, btw_split x d x.length 0 #[] 0 (Nat.zero_add _) (Nat.le_refl _) (by simp)]
  simp
theorem occ_nil {x : List UInt8} {d : UInt8} (h : (Bytes.occurrences x.toArray #[d] 0 x.length).isEmpty = true) : splitC d x = [x] := by
  have := split_eq x d
  rw [List.isEmpty_iff.mp h] at this
  have e : Bytes.between x.toArray 1 [] = [x.toArray] := by
    show (#[].push (x.toArray.extract 0 x.toArray.size)).toList = _
    simp
  rw [e] at this
  have h2 : (splitC d x).map List.toArray = [x].map List.toArray := this.symm
  have h3 := congrArg (List.map Array.toList) h2
  simpa [List.map_map] using h3
theorem joinC_cons (sep x y : List UInt8) (r : List (List UInt8)) : joinC sep (x :: y :: r) = x ++ sep ++ joinC sep (y :: r) := rfl
theorem joined_eq (sep : List UInt8) (parts : List (List UInt8)) : Bytes.joined sep.toArray (parts.map List.toArray) = (joinC sep parts).toArray := by
  unfold Bytes.joined
  have go : ∀ (ps : List (List UInt8)) (k : Nat) (out : List UInt8), 0 < k → ((ps.map List.toArray).zipIdx k).foldl (fun out (z : Array UInt8 × Nat) => (if z.2 > 0 then out ++ sep.toArray else out) ++ z.1) out.toArray = (ps.foldl (fun o p => o ++ sep ++ p) out).toArray := by
    intro ps
    induction ps with
    | nil => intros; rfl
    | cons p ps ih =>
      intro k out hk
      rw [List.map_cons, List.zipIdx_cons, List.foldl_cons, List.foldl_cons, if_pos hk, List.append_toArray, List.append_toArray]
      exact ih (k + 1) _ (by lia)
  have fold : ∀ (ps : List (List UInt8)) (out : List UInt8) (p : List UInt8), (ps.foldl (fun o p => o ++ sep ++ p) (out ++ p)) = out ++ joinC sep (p :: ps) := by
    intro ps
    induction ps with
    | nil => intros; rfl
    | cons q ps ih =>
      intro out p
      rw [List.foldl_cons, joinC_cons, ← List.append_assoc, ← List.append_assoc]
      exact ih (out ++ p ++ sep) q
  cases parts with
  | nil => rfl
  | cons p ps =>
    rw [List.map_cons, List.zipIdx_cons, List.foldl_cons]
    have e : (if (0 : Nat) > 0 then (#[] : Array UInt8) ++ sep.toArray else #[]) ++ p.toArray = p.toArray := by simp
    refine Eq.trans ?_ (congrArg List.toArray (fold ps [] p))
    show List.foldl _ ((if (0 : Nat) > 0 then (#[] : Array UInt8) ++ sep.toArray else #[]) ++ p.toArray) _ = _
    rw [e]
    exact go ps 1 p (by omega)
end PL
end
section
open _root_.PySem _root_.PySem.W _root_.PySem.Spec _root_.PySem.Calls _root_.PyProof.Rows _root_.PySem.Builtin
namespace BZ
theorem slot_rindex : Slot "bytes" "rindex" "bytes.rindex" :=
  .of (owner := "bytes") (n := "rindex") (by rw [typeLookup_type, builtinLookup_eq_fast]; kernel_rfl) (by decide +kernel) (by decide +kernel) (by decide +kernel)
    (by first | exact .inl (by decide +kernel) | exact .inr (by decide +kernel)) (by rw [isSubtype_type]; kernel_rfl)
theorem type_rindex : typeOf (.builtin "bytes.rindex") = pure (.type "method_descriptor") := by show builtinType _ = _; rw [builtinType_eq_fast]; kernel_rfl
theorem entry_rindex : entryFor table "bytes.rindex" = some Builtin.«bytes.rindex» := entryFor_of_tree (by kernel_rfl)
theorem args_rindex (a b : Value) : argsOk "bytes.rindex" ⟨[a, b], []⟩ := by
  unfold argsOk; rw [signature?_of (id := "bytes.rindex") (n := "rindex".toList.reverse) (o := ['s', 'e', 't', 'y', 'b']) (by kernel_rfl) FB.owner_bytes]; kernel_rfl
theorem slot_rsplit : Slot "bytes" "rsplit" "bytes.rsplit" :=
  .of (owner := "bytes") (n := "rsplit") (by rw [typeLookup_type, builtinLookup_eq_fast]; kernel_rfl) (by decide +kernel) (by decide +kernel) (by decide +kernel)
    (by first | exact .inl (by decide +kernel) | exact .inr (by decide +kernel)) (by rw [isSubtype_type]; kernel_rfl)
theorem type_rsplit : typeOf (.builtin "bytes.rsplit") = pure (.type "method_descriptor") := by show builtinType _ = _; rw [builtinType_eq_fast]; kernel_rfl
theorem entry_rsplit : entryFor table "bytes.rsplit" = some Builtin.«bytes.rsplit» := entryFor_of_tree (by kernel_rfl)
theorem args_rsplit (a b c : Value) : argsOk "bytes.rsplit" ⟨[a, b, c], []⟩ := by
  unfold argsOk; rw [signature?_of (id := "bytes.rsplit") (n := "rsplit".toList.reverse) (o := ['s', 'e', 't', 'y', 'b']) (by kernel_rfl) FB.owner_bytes]; kernel_rfl
theorem slot_split : Slot "bytes" "split" "bytes.split" :=
  .of (owner := "bytes") (n := "split") (by rw [typeLookup_type, builtinLookup_eq_fast]; kernel_rfl) (by decide +kernel) (by decide +kernel) (by decide +kernel)
    (by first | exact .inl (by decide +kernel) | exact .inr (by decide +kernel)) (by rw [isSubtype_type]; kernel_rfl)
theorem type_split : typeOf (.builtin "bytes.split") = pure (.type "method_descriptor") := by show builtinType _ = _; rw [builtinType_eq_fast]; kernel_rfl
theorem entry_split : entryFor table "bytes.split" = some Builtin.«bytes.split» := entryFor_of_tree (by kernel_rfl)
theorem args_split (a b : Value) : argsOk "bytes.split" ⟨[a, b], []⟩ := by
  unfold argsOk; rw [signature?_of (id := "bytes.split") (n := "split".toList.reverse) (o := ['s', 'e', 't', 'y', 'b']) (by kernel_rfl) FB.owner_bytes]; kernel_rfl
theorem slot_join : Slot "bytes" "join" "bytes.join" :=
  .of (owner := "bytes") (n := "join") (by rw [typeLookup_type, builtinLookup_eq_fast]; kernel_rfl) (by decide +kernel) (by decide +kernel) (by decide +kernel)
    (by first | exact .inl (by decide +kernel) | exact .inr (by decide +kernel)) (by rw [isSubtype_type]; kernel_rfl)
theorem type_join : typeOf (.builtin "bytes.join") = pure (.type "method_descriptor") := by show builtinType _ = _; rw [builtinType_eq_fast]; kernel_rfl
theorem entry_join : entryFor table "bytes.join" = some Builtin.«bytes.join» := entryFor_of_tree (by kernel_rfl)
theorem args_join (a b : Value) : argsOk "bytes.join" ⟨[a, b], []⟩ := by
  unfold argsOk; rw [signature?_of (id := "bytes.join") (n := "join".toList.reverse) (o := ['s', 'e', 't', 'y', 'b']) (by kernel_rfl) FB.owner_bytes]; kernel_rfl

theorem rindex_args (x : List UInt8) (t u : Tok) : Bytes.searchArgs .bytes "rindex" ⟨[.bytes x.toArray t, .bytes ([62, 32] : List UInt8).toArray u], []⟩ =
    pure (x.toArray, #[62, 32], if (min (x.toArray.size : Int) (x.toArray.size : Int)) - 0 < ((#[62, 32] : Array UInt8).size : Int) then none else some (0, (min (x.toArray.size : Int) (x.toArray.size : Int)).toNat)) := by
  unfold Bytes.searchArgs
  show (Bytes.buffer? _ (.bytes ([62, 32] : List UInt8).toArray u) >>= _) = _
  rw [KBy.buffer_eq]
  rfl
theorem rindex_found (x : List UInt8) : ((if (min (x.toArray.size : Int) (x.toArray.size : Int)) - 0 < ((#[62, 32] : Array UInt8).size : Int) then none else some ((0 : Nat), (min (x.toArray.size : Int) (x.toArray.size : Int)).toNat)).bind fun (z : Nat × Nat) => Bytes.rfind? x.toArray #[62, 32] z.1 z.2) =
    (PL.lastMark x).map fun z => z.1.length := by
  have e1 : (min (x.toArray.size : Int) (x.toArray.size : Int)).toNat = x.length := by rw [Int.min_self]; rfl
  by_cases h : (min (x.toArray.size : Int) (x.toArray.size : Int)) - 0 < ((#[62, 32] : Array UInt8).size : Int)
  · rw [if_pos h]
    have : x.length < 2 := by
      have e2 : ((#[62, 32] : Array UInt8).size : Int) = 2 := rfl
      rw [e2, Int.min_self, Int.sub_zero] at h; exact Int.ofNat_lt.mp h
    cases hm : PL.lastMark x with
    | none => rfl
    | some z =>
      have := congrArg List.length (PL.lastMark_eq (p := z.1) (r := z.2) hm)
      simp at this; omega
  · rw [if_neg h, e1]
    exact PL.rfind_mark x
theorem gives_rindex {x p r : List UInt8} (t u : Tok) (h : PL.lastMark x = some (p, r)) : Gives («bytes.rindex» ⟨[.bytes x.toArray t, .bytes ([62, 32] : List UInt8).toArray u], []⟩) (.int p.length) := by
  refine .of_wp fun M A E s Q hq => ?_
  show wpAny M A (Bytes.searchArgs .bytes "rindex" _ >>= _) _ E s
  refine wpAny_bind (wpAny_of_eq (rindex_args x t u) ?_)
  have e := rindex_found x
  rw [h] at e
  show wpAny M A (match Option.bind _ (fun (z : Nat × Nat) => Bytes.rfind? x.toArray #[62, 32] z.1 z.2) with | some i => retInt i | none => _) _ E s
  rw [e]
  exact wpAny_bind (wpAny_mkInt (wpAny_pure ⟨_, rfl, hq⟩))
theorem raises_rindex {x : List UInt8} (t u : Tok) (h : PL.lastMark x = none) : Meets («bytes.rindex» ⟨[.bytes x.toArray t, .bytes ([62, 32] : List UInt8).toArray u], []⟩) (raisesNew "ValueError") := by
  intro prog w A R s hS
  show wpAny _ _ (Bytes.searchArgs .bytes "rindex" _ >>= _) _ _ s
  refine wpAny_bind (wpAny_of_eq (rindex_args x t u) ?_)
  have e := rindex_found x
  rw [h] at e
  show wpAny _ _ (match Option.bind _ (fun (z : Nat × Nat) => Bytes.rfind? x.toArray #[62, 32] z.1 z.2) with | some i => retInt i | none => _) _ _ s
  rw [e]
  first
    | exact wpAny_bind (wpAny_rule (by exact_raiseError plainExc_ValueError hS.1 hS.2))
    | exact wpAny_bind (wpAny_rule (wpAny_bind (by exact_raiseError plainExc_ValueError hS.1 hS.2)))

theorem like_eq {id : String} {b : Array UInt8} {t : Tok} : Bytes.bytesLike id (.bytes b t) = pure b := by
  unfold Bytes.bytesLike
  rw [KBy.buffer_eq]
  rfl
theorem mapM_bytes {M : Model} {A : Around} {E : Value → Shared → Prop} : ∀ (l : List (List UInt8)) {s : Shared} {Q : List Value → Shared → Prop}, (∀ y ∈ l, y.length ≤ 16777216) →
    (∀ vs k, vs.length = l.length → (∀ j : Nat, ∃ t, vs[j]? = (l[j]?).map fun (y : List UInt8) => Value.bytes y.toArray (t : Tok)) → Q vs { s with toks := k }) → wpAny M A ((l.map List.toArray).mapM (Bytes.Kind.new .bytes)) Q E s
  | [], s, Q, _, h => wpAny_pure (h [] s.toks rfl fun j => ⟨0, by simp⟩)
  | y :: l, s, Q, hz, h => by
    rw [List.map_cons, List.mapM_cons]
    refine wpAny_bind ?_
    show wpAny M A (mkBytes y.toArray) _ E s
    refine wpAny_mkBytes (wpAny_bind (mapM_bytes l (fun z hz' => hz z (.tail _ hz')) fun vs k hl hv => wpAny_pure ?_)) (by rw [List.size_toArray, sizeLine_eq]; exact hz y (.head _))
    refine h (_ :: vs) k (by simp [hl]) fun j => ?_
    cases j with
    | zero => exact ⟨s.toks, rfl⟩
    | succ j => exact hv j
noncomputable def BytesAre (vs : List Value) (l : List (List UInt8)) : Prop := vs.length = l.length ∧ ∀ j : Nat, ∃ t, vs[j]? = (l[j]?).map fun (y : List UInt8) => Value.bytes y.toArray (t : Tok)
theorem splitC_len (d : UInt8) : ∀ x : List UInt8, ∀ y ∈ PL.splitC d x, y.length ≤ x.length
  | [], y, h => by simp [PL.splitC] at h; subst h; exact Nat.le_refl _
  | c :: l, y, h => by
    rw [PL.splitC_cons] at h
    have ih := splitC_len d l
    split at h
    · rcases List.mem_cons.mp h with rfl | h
      · exact Nat.zero_le _
      · exact Nat.le_succ_of_le (ih y h)
    · cases hs : PL.splitC d l with
      | nil => exact absurd hs (PL.splitC_ne d l)
      | cons z r =>
        rw [hs] at h ih
        rcases List.mem_cons.mp h with rfl | h
        · simp only [List.headD_cons, List.length_cons]
          exact Nat.succ_le_succ (ih z (.head _))
        · exact Nat.le_succ_of_le (ih y (.tail _ h))
theorem meets_split {x : List UInt8} {d : UInt8} (t u : Tok) (hz : x.length ≤ 16777215) :
    Meets («bytes.split» ⟨[.bytes x.toArray t, .bytes ([d] : List UInt8).toArray u], []⟩) (fun _ R s => ∀ vs k, BytesAre vs (PL.splitC d x) → (R (.ok (.ret (.ref s.heap.objs.size)))) { s with heap := s.heap.push { cls := .type "list", data := .seq vs.toArray }, toks := k }) := by
  refine .of_wp fun prog w A R s h => ?_
  show wpAny _ _ (Bytes.bytesLike _ (.bytes ([d] : List UInt8).toArray u) >>= _) _ _ s
  refine wpAny_bind (wpAny_of_eq like_eq ?_)
  have hlim : (if false = true then Bytes.occurrencesFromRight x.toArray #[d] (if (-1 : Int) < 0 then x.toArray.size + 1 else (-1 : Int).toNat) else List.take (if (-1 : Int) < 0 then x.toArray.size + 1 else (-1 : Int).toNat) (Bytes.occurrences x.toArray #[d] 0 x.toArray.size)) = Bytes.occurrences x.toArray #[d] 0 x.length := by
    rw [if_neg Bool.false_ne_true, if_pos (by decide), List.size_toArray]
    refine List.take_of_length_le ?_
    rw [PL.occ_filter]
    refine Nat.le_trans (List.length_filter_le _ _) ?_
    rw [List.length_range']; lia
  dsimp only
  rw [hlim, if_neg (by simp)]
  have hlen : (PL.splitC d x).length ≤ x.length + 1 := by
    have : ∀ l : List UInt8, (PL.splitC d l).length ≤ l.length + 1 := by
      intro l
      induction l with
      | nil => simp [PL.splitC]
      | cons c l ih =>
        rw [PL.splitC_cons]
        split
        · simp; exact ih
        · cases hs : PL.splitC d l with
          | nil => simp
          | cons z r => rw [hs] at ih; simp at ih ⊢; omega
    exact this x
  by_cases hp : (Bytes.occurrences x.toArray #[d] 0 x.length).isEmpty = true
  · rw [if_pos hp]
    refine wpAny_bind (wpAny_rule ?_)
    refine wpAny_bind (wpAny_of_eq (t := Bytes.Kind.same .bytes (.bytes x.toArray t)) (a := Value.bytes x.toArray t) (by unfold Bytes.Kind.same; rfl) ?_)
    refine wpAny_bind (wpAny_newObj_type ?_ (by show (1 : Nat) ≤ sizeLine; rw [sizeLine_eq]; decide))
    refine wpAny_pure ⟨_, rfl, h [.bytes x.toArray t] s.toks ?_⟩
    rw [PL.occ_nil hp]
    exact ⟨rfl, fun j => ⟨t, by cases j <;> simp⟩⟩
  · rw [if_neg hp]
    have e1 : Bytes.between x.toArray (#[d] : Array UInt8).size (Bytes.occurrences x.toArray #[d] 0 x.length) = (PL.splitC d x).map List.toArray := PL.split_eq x d
    rw [e1]
    refine wpAny_bind (mapM_bytes _ (fun y hy => Nat.le_trans (splitC_len d x y hy) (by omega)) fun vs k hl hv => ?_)
    refine wpAny_bind (wpAny_newObj_type (wpAny_pure ⟨_, rfl, h vs k ⟨hl, hv⟩⟩) ?_)
    show vs.toArray.size ≤ sizeLine
    rw [List.size_toArray, hl, sizeLine_eq]; lia

theorem meets_rsplit {x : List UInt8} {d : UInt8} (t u v : Tok) (hz : x.length ≤ 16777215) :
    Meets («bytes.rsplit» ⟨[.bytes x.toArray t, .bytes ([d] : List UInt8).toArray u, .int 1 v], []⟩) (fun _ R s => (∀ p r, PL.lastSp d x = some (p, r) → ∀ t1 t2 k, R (.ok (.ret (.ref s.heap.objs.size))) { s with heap := s.heap.push { cls := .type "list", data := .seq [.bytes p.toArray t1, .bytes r.toArray t2].toArray }, toks := k }) ∧
      (PL.lastSp d x = none → ∀ t1 k, R (.ok (.ret (.ref s.heap.objs.size))) { s with heap := s.heap.push { cls := .type "list", data := .seq [.bytes x.toArray t1].toArray }, toks := k })) := by
  refine .of_wp fun prog w A R s h => ?_
  have ec : ∀ id, Bytes.countArg id (.int 1 v) = pure 1 := fun _ => rfl
  have eb : ∀ id : String, Bytes.bindOptional id "rsplit" ["sep", "maxsplit"] [.bytes ([d] : List UInt8).toArray u, .int 1 v] [] = pure [some (.bytes ([d] : List UInt8).toArray u), some (.int 1 v)] := fun _ => rfl
  show wpAny _ _ (Bytes.bindOptional _ "rsplit" ["sep", "maxsplit"] [.bytes ([d] : List UInt8).toArray u, .int 1 v] [] >>= _) _ _ s
  refine wpAny_bind (wpAny_of_eq (eb _) ?_)
  dsimp only
  refine wpAny_bind (wpAny_of_eq (ec _) ?_)
  refine wpAny_bind (wpAny_of_eq (a := x.toArray) rfl ?_)
  show wpAny _ _ (Bytes.bytesLike _ (.bytes ([d] : List UInt8).toArray u) >>= _) _ _ s
  refine wpAny_bind (wpAny_of_eq like_eq ?_)
  have hlim : (if true = true then Bytes.occurrencesFromRight x.toArray #[d] (if (1 : Int) < 0 then x.toArray.size + 1 else (1 : Int).toNat) else List.take (if (1 : Int) < 0 then x.toArray.size + 1 else (1 : Int).toNat) (Bytes.occurrences x.toArray #[d] 0 x.toArray.size)) = ((PL.lastSp d x).map fun z => z.1.length).toList := by
    rw [if_pos rfl, if_neg (by decide)]
    exact PL.occ_right_one x d
  rw [hlim, if_neg (by simp)]
  cases hm : PL.lastSp d x with
  | none =>
    rw [if_pos (show (Option.map (fun (z : List UInt8 × List UInt8) => z.1.length) none).toList.isEmpty = true from rfl)]
    refine wpAny_bind (wpAny_rule ?_)
    refine wpAny_bind (wpAny_of_eq (t := Bytes.Kind.same .bytes (.bytes x.toArray t)) (a := Value.bytes x.toArray t) (by unfold Bytes.Kind.same; rfl) ?_)
    refine wpAny_bind (wpAny_newObj_type ?_ (by show (1 : Nat) ≤ sizeLine; rw [sizeLine_eq]; decide))
    exact wpAny_pure ⟨_, rfl, h.2 hm _ _⟩
  | some z =>
    obtain ⟨p, r⟩ := z
    rw [if_neg (by simp)]
    have hx := PL.lastSp_eq hm
    have e1 : Bytes.between x.toArray (#[d] : Array UInt8).size (((some (p, r)).map fun z => z.1.length).toList) = [p, r].map List.toArray := by
      have ep : x.toArray.extract 0 p.length = p.toArray := by apply Array.ext'; rw [hx]; simp
      have er : x.toArray.extract (p.length + 1) x.toArray.size = r.toArray := by
        apply Array.ext'
        simp only [Array.toList_extract, List.size_toArray, List.extract_eq_take_drop]
        rw [hx, List.take_of_length_le (by simp; omega)]
        rw [show p ++ d :: r = (p ++ [d]) ++ r by simp, List.drop_left' (by simp)]
      show ((#[].push (x.toArray.extract 0 p.length)).push (x.toArray.extract (p.length + 1) x.toArray.size)).toList = _
      rw [ep, er]; rfl
    rw [e1]
    have hlp : p.length ≤ 16777216 ∧ r.length ≤ 16777216 := by have := congrArg List.length hx; simp at this; omega
    show wpAny _ _ (([p, r].map List.toArray).mapM (Bytes.Kind.new .bytes) >>= _) _ _ s
    refine wpAny_bind ?_
    show wpAny _ _ (List.mapM (Bytes.Kind.new .bytes) [p.toArray, r.toArray]) _ _ s
    rw [List.mapM_cons]
    refine wpAny_bind (wpAny_mkBytes ?_ (by rw [List.size_toArray, sizeLine_eq]; exact hlp.1))
    rw [List.mapM_cons]
    refine wpAny_bind (wpAny_bind (wpAny_mkBytes ?_ (by rw [List.size_toArray, sizeLine_eq]; exact hlp.2)))
    rw [List.mapM_nil]
    refine wpAny_bind (wpAny_pure (wpAny_pure (wpAny_pure ?_)))
    refine wpAny_bind (wpAny_newObj_type ?_ (by show (2 : Nat) ≤ sizeLine; rw [sizeLine_eq]; decide))
    exact wpAny_pure ⟨_, rfl, h.1 p r hm _ _ _⟩
end BZ
end
section
open _root_.PySem _root_.PySem.W _root_.PySem.Spec _root_.PySem.Calls _root_.PyProof.Rows _root_.PySem.Builtin
namespace BZ
theorem take_quiet {id : String} {b : Array UInt8} {t : Tok} : Bytes.takeBufferQuiet? id (.bytes b t) 0 = pure (some (b, none)) := by
  have e : Bytes.takeBuffer? id (.bytes b t) 0 = pure (some (b, none)) := by
    unfold Bytes.takeBuffer?
    rw [KBy.special_eq KBy.look_buffer, KBy.own_buffer]
    show (Bytes.buffer? id (.bytes b t) false >>= _) = _
    rw [KBy.buffer_eq]
    rfl
  unfold Bytes.takeBufferQuiet?
  rw [e]
  rfl
theorem wp_joinLetGo {M : Model} {A : Around} {E : Value → Shared → Prop} {s : Shared} {keep : List Value} {Q : Unit → Shared → Prop} (h : Q () s) : ∀ vs : List Value, wpAny M A (Bytes.joinLetGo (vs.map fun v => (v, none)) keep) Q E s
  | [] => wpAny_pure h
  | v :: vs => by
    show wpAny M A (letGo _ _ >>= fun _ => Bytes.joinLetGo (vs.map fun v => (v, none)) keep) Q E s
    exact wpAny_bind (wpAny_letGo (wp_joinLetGo h vs))
theorem size_fold : ∀ (ps : List (List UInt8)) (k : Nat), (ps.map List.toArray).toArray.foldl (fun (n : Nat) (p : Array UInt8) => n + p.size) k = k + (ps.map List.length).sum := by
  intro ps
  induction ps with
  | nil => intro k; simp
  | cons p ps ih =>
    intro k
    rw [List.map_cons, ← Array.foldl_toList]
    show List.foldl _ k (p.toArray :: ps.map List.toArray) = _
    rw [List.foldl_cons]
    have := ih (k + p.length)
    rw [← Array.foldl_toList] at this
    show List.foldl _ (k + p.toArray.size) (ps.map List.toArray) = _
    rw [List.size_toArray]
    rw [show (ps.map List.toArray).toArray.toList = ps.map List.toArray from rfl] at this
    rw [this]; simp; lia
theorem joinC_length (sep : List UInt8) : ∀ (ps : List (List UInt8)), (PL.joinC sep ps).length = sep.length * (ps.length - 1) + (ps.map List.length).sum
  | [] => by simp [PL.joinC]
  | [x] => by simp [PL.joinC]
  | x :: y :: r => by
    have ih := joinC_length sep (y :: r)
    rw [PL.joinC_cons, List.length_append, List.length_append, ih]
    simp only [List.length_cons, List.map_cons, List.sum_cons, Nat.add_sub_cancel]
    rw [Nat.mul_add]; lia
theorem meets_join {sep : List UInt8} {l : List (List UInt8)} {vs : List Value} {a : Addr} (t : Tok) (hz : (PL.joinC sep l).length ≤ 1000000) (hv : BytesAre vs l) :
    Meets («bytes.join» ⟨[.bytes sep.toArray t, .ref a], []⟩) (fun _ R s => s.heap.IsList a vs.toArray ∧ ∀ t' k, R (.ok (.ret (.bytes (PL.joinC sep l).toArray t'))) { s with toks := k }) := by
  refine .of_wp fun prog w A R s h => ?_
  obtain ⟨hl, h⟩ := h
  obtain ⟨ol, hol, hc, n, hd⟩ := id hl
  have hT : s.TypeIs (.ref a) "list" := hl.typeIs
  unfold Builtin.«bytes.join» Bytes.joinM
  dsimp only
  have k1 : (Bytes.Kind.bytes == Bytes.Kind.bytes) = true := rfl
  have k2 : (Bytes.Kind.bytes == Bytes.Kind.bytearray) = false := rfl
  refine wpAny_bind (wpAny_of_eq (a := (Value.bytes sep.toArray t, Value.ref a)) rfl ?_)
  rw [if_pos k1]
  dsimp only
  refine wpAny_bind ?_
  unfold Bytes.joinItems
  refine wpAny_bind (wpAny_typeOf hT ?_)
  rw [if_pos (by rfl)]
  refine wpAny_pure ?_
  refine wpAny_bind (wpAny_seqItems hol hd ?_)
  dsimp only
  rw [if_pos k1]
  -- the turns
  have turns : ∀ (f : Nat → Array (Array UInt8) × List (Value × Option Value) → Sem (ForInStep (Array (Array UInt8) × List (Value × Option Value)))) (Q : Array (Array UInt8) × List (Value × Option Value) → Shared → Prop),
      (∀ (i : Nat) (y : List UInt8) (ty : Tok) (p : Array (Array UInt8)) (tk : List Value), i < l.length → l[i]? = some y → vs[i]? = some (.bytes y.toArray ty) → (tk.any Value.onHeap) = false →
        wpAny (model prog w) A.in1 (f i (p, tk.map fun v => (v, none))) (fun r s' => r = .yield (p.push y.toArray, (tk ++ [Value.bytes y.toArray ty]).map fun v => (v, none)) ∧ s' = s) (fun e s' => R (.error e) s') s) →
      (∀ tk : List Value, Q ((l.map List.toArray).toArray, tk.map fun v => (v, none)) s) →
      wpAny (model prog w) A.in1 (forIn [:vs.toArray.size] ((#[] : Array (Array UInt8)), ([] : List (Value × Option Value))) f) Q (fun e s' => R (.error e) s') s := by
    intro f Q turn fin
    rw [KPc.range_list, List.size_toArray, hv.1]
    refine wpAny_forIn_list f (fun rest b s' => s' = s ∧ ∃ i tk, rest = List.range' i (l.length - i) 1 ∧ i ≤ l.length ∧ b = (((l.take i).map List.toArray).toArray, tk.map fun v => (v, none)) ∧ (tk.any Value.onHeap) = false) Q ?_ ?_ _ _ ⟨rfl, 0, [], by simp, Nat.zero_le _, rfl, rfl⟩
    · rintro x rest b s' ⟨rfl, i, tk, hr, hi, rfl, ht⟩
      have hlt : i < l.length := by
        refine Nat.lt_of_sub_ne_zero fun hq => ?_
        rw [hq] at hr; cases hr
      have hsz : l.length - i = (l.length - (i + 1)) + 1 := by rw [Nat.sub_add_eq, Nat.sub_add_cancel (Nat.sub_pos_of_lt hlt)]
      rw [hsz, List.range'_succ] at hr
      obtain ⟨rfl, rfl⟩ := List.cons.inj hr
      obtain ⟨ty, hy⟩ := hv.2 x
      rw [List.getElem?_eq_getElem hlt] at hy
      refine wpAny_mono (turn x l[x] ty _ tk hlt (List.getElem?_eq_getElem hlt) hy ht) (fun r s₁ hr' => ?_) fun _ _ z => z
      obtain ⟨rfl, rfl⟩ := hr'
      refine ⟨rfl, x + 1, tk ++ [Value.bytes l[x].toArray ty], rfl, hlt, ?_, ?_⟩
      · rw [List.take_succ_eq_append_getElem hlt]; simp only [List.map_append, List.map_cons, List.map_nil, List.push_toArray]
      · simp only [List.any_append, ht, Bool.false_or, List.any_cons, List.any_nil, Bool.or_false]; rfl
    · rintro b s' ⟨rfl, i, tk, hr, hi, rfl, ht⟩
      have : i = l.length := by
        have := congrArg List.length hr
        rw [List.length_range', List.length_nil] at this; exact Nat.le_antisymm hi (Nat.sub_eq_zero_iff_le.mp this.symm)
      subst this
      rw [List.take_length]
      exact fin tk
  have one : ∀ (i : Nat) (y : List UInt8) (ty : Tok) (p : Array (Array UInt8)) (tk : List Value), i < l.length → l[i]? = some y → vs[i]? = some (.bytes y.toArray ty) → (tk.any Value.onHeap) = false → vs.toArray.getD i .none = .bytes y.toArray ty := by
    intro i y ty p tk hi _ hy _
    simp [Array.getD_eq_getD_getElem?, hy]
  have hgo : ∀ tk : List Value, (tk.any Value.onHeap) = false → (Bytes.Kind.bytes == Bytes.Kind.bytearray || (tk.map fun v => (v, (none : Option Value))).any fun x => x.1.onHeap) = false := by
    intro tk ht
    rw [k2, Bool.false_or, List.any_map]
    exact ht
  have tail : ∀ (tk : List Value) (C : Sem Fin), wpAny (model prog w) A.in1 (do
        let sep ← Bytes.payload (.bytes sep.toArray t)
        if Bytes.tooLong (Array.foldl (fun (n : Nat) (p : Array UInt8) => n + p.size) (sep.size * ((l.map List.toArray).toArray.size - 1)) (l.map List.toArray).toArray) = true then C
        else do
          let result ← Bytes.Kind.new .bytes (Bytes.joined sep (l.map List.toArray).toArray.toList)
          holding (result :: (tk.map fun v => (v, (none : Option Value))).flatMap fun q => q.1 :: q.2.toList) point
          Bytes.joinLetGo (tk.map fun v => (v, none)) [result]
          ret result) (fun fin s' => ∃ v, fin = .done (.ret v) ∧ R (.ok (.ret v)) s') (fun e s' => R (.error e) s') s := by
    intro tk C
    have hsz : Bytes.tooLong ((l.map List.toArray).toArray.foldl (fun (n : Nat) (p : Array UInt8) => n + p.size) (sep.toArray.size * ((l.map List.toArray).toArray.size - 1))) = false := by
      rw [size_fold]
      have := joinC_length sep l
      unfold Bytes.tooLong
      rw [sizeLine_eq, List.size_toArray, List.size_toArray, List.length_map, ← this]
      exact decide_eq_false (by omega)
    refine wpAny_bind (wpAny_of_eq (a := sep.toArray) rfl ?_)
    rw [if_neg (by rw [hsz]; exact Bool.false_ne_true)]
    have ej : Bytes.joined sep.toArray (l.map List.toArray).toArray.toList = (PL.joinC sep l).toArray := PL.joined_eq sep l
    rw [ej]
    refine wpAny_bind ?_
    show wpAny _ _ (mkBytes _) _ _ _
    refine wpAny_mkBytes ?_ (by rw [List.size_toArray, sizeLine_eq]; omega)
    refine wpAny_bind (wpAny_holding (wpAny_point ?_))
    exact wpAny_bind (wp_joinLetGo (wpAny_pure ⟨_, rfl, h _ _⟩) tk)
  by_cases hl1 : vs.length = 1
  · obtain ⟨x, rfl⟩ := List.length_eq_one_iff.mp hl1
    have hl2 : l.length = 1 := hv.1.symm
    obtain ⟨y, rfl⟩ := List.length_eq_one_iff.mp hl2
    obtain ⟨ty, hy⟩ := hv.2 0
    have hx' : x = .bytes y.toArray ty := by simpa using hy
    subst hx'
    show wpAny _ _ (typeOf (.bytes y.toArray ty) >>= _) _ _ _
    refine wpAny_bind (wpAny_typeOf (typeIs_bytes _ _ _) ?_)
    rw [if_pos (by rfl)]
    refine wpAny_bind (wpAny_rule (wpAny_pure ⟨_, rfl, ?_⟩))
    exact h ty s.toks
  · rcases vs with _ | ⟨x, _ | ⟨y, r⟩⟩
    · refine wpAny_bind (turns _ _ (fun i y ty p tk hi hly hvy ht => ?_) fun tk => tail tk _)
      exact absurd hvy (by simp)
    · exact absurd rfl hl1
    · refine wpAny_bind (turns _ _ (fun i y ty p tk hi hly hvy ht => ?_) fun tk => tail tk _)
      refine wpAny_bind (wpAny_seqItems hol hd ?_)
      dsimp only
      rw [if_neg (by rw [hgo tk ht]; exact Bool.false_ne_true), one i y ty p tk hi hly hvy ht]
      refine wpAny_bind (wpAny_holding (wpAny_of_eq take_quiet ?_))
      dsimp only
      refine wpAny_bind (wpAny_seqItems hol hd ?_)
      dsimp only
      rw [if_neg (by simp)]
      exact wpAny_pure ⟨by simp, rfl⟩
end BZ
end
section
open _root_.PySem _root_.PySem.W _root_.PySem.Spec _root_.PySem.Calls _root_.PyProof.Rows _root_.PySem.Builtin
section
variable {prog : Program} {w : World} {A : Around} {E : Value → Shared → Prop} {s : Shared} {env : Env}
theorem wpK_Assign_Tuple {elts k tpos value pos} {Q : Flow → Shared → Prop}
    (h : wpK (model prog w) A (eval value env) (fun v s₁ => wpAny (model prog w) A (assign (.Tuple elts k tpos) env v) (fun _ => Q .next) E s₁) E s)
    (hs : swapsWithSole [.Tuple elts k tpos] value pos.line env = pure false := by rfl)
    (hw : swappedStores [.Tuple elts k tpos] value env = pure none := by rfl) : wpK (model prog w) A (exec (.Assign [.Tuple elts k tpos] value pos) env) Q E s := by
  rw [exec_Assign, hs, hw]
  refine wpK_bind (wpK_standAt ?_)
  refine wpK_bind (wpK_of (wpAny_pure ?_))
  rw [if_neg Bool.false_ne_true]
  refine wpK_bind (wpK_mono h (fun v s₁ h₁ => ?_) fun _ _ x => x)
  refine wpK_bindA (wpAny_pure (wpK_of ?_))
  show wpAny _ _ (assignStores env v none _) _ _ _
  unfold assignStores
  first
    | exact wpAny_bind (wpAny_mono (by assumption) (fun _ _ h => wpAny_pure h) fun _ _ x => x)
    | (refine wpAny_bind ?_; show wpAny _ _ (assignAll _ _) _ _ _; unfold assignAll; exact wpAny_holding (wpAny_bind (wpAny_mono h₁ (fun _ _ h => wpAny_pure (wpAny_pure h)) fun _ _ x => x)))
end
namespace BW
section
variable {prog : Program} {w : World} {A : Around} {E : Value → Shared → Prop} {s : Shared} {h₀ : Heap} {L : Addr} {m : PySem.Str → Option Value} {news : List (Addr × Obj)} {x : List UInt8} {t u v : Tok}
theorem meth_rindex {M : Model} {b : Array UInt8} {pl : Sem Bool} {Q : Value × List Value → Shared → Prop} (h : Q (.builtin "bytes.rindex", [.bytes b t]) s) : wpAny M A (getMethod (.bytes b t) "rindex" pl) Q E s := by
  with_reducible exact KBd.method_of (.bytes b t) (typeIs_bytes _ _ _) BZ.slot_rindex BZ.type_rindex KBd.noRef h
theorem meth_rsplit {M : Model} {b : Array UInt8} {pl : Sem Bool} {Q : Value × List Value → Shared → Prop} (h : Q (.builtin "bytes.rsplit", [.bytes b t]) s) : wpAny M A (getMethod (.bytes b t) "rsplit" pl) Q E s := by
  with_reducible exact KBd.method_of (.bytes b t) (typeIs_bytes _ _ _) BZ.slot_rsplit BZ.type_rsplit KBd.noRef h
theorem meth_split {M : Model} {b : Array UInt8} {pl : Sem Bool} {Q : Value × List Value → Shared → Prop} (h : Q (.builtin "bytes.split", [.bytes b t]) s) : wpAny M A (getMethod (.bytes b t) "split" pl) Q E s := by
  with_reducible exact KBd.method_of (.bytes b t) (typeIs_bytes _ _ _) BZ.slot_split BZ.type_split KBd.noRef h
theorem meth_join {M : Model} {b : Array UInt8} {pl : Sem Bool} {Q : Value × List Value → Shared → Prop} (h : Q (.builtin "bytes.join", [.bytes b t]) s) : wpAny M A (getMethod (.bytes b t) "join" pl) Q E s := by
  with_reducible exact KBd.method_of (.bytes b t) (typeIs_bytes _ _ _) BZ.slot_join BZ.type_join KBd.noRef h

theorem rindex_found {p r : List UInt8} {Q : Value → Shared → Prop} (hm : PL.lastMark x = some (p, r)) (h : ∀ t' k, Q (.int p.length t') { s with toks := k }) :
    wpAny (model prog w) A (call (.builtin "bytes.rindex") [.bytes x.toArray t, .bytes ([62, 32] : List UInt8).toArray u]) Q E s :=
  call_meets BZ.slot_rindex (typeIs_bytes _ _ _) BZ.entry_rindex (BZ.args_rindex _ _) (BZ.gives_rindex t u hm) (h _ _)
theorem raise_made {α : Type} {cls msg : String} {Q : α → Shared → Prop} (hp : PlainExc cls) (hh : A.handled = none) (hm : (msg : PySem.Str).length ≤ sizeLine)
    (h : ∀ h' tk e vs, Heap.MadeExc s.heap h' e cls vs → E (.ref e) { s with heap := h', toks := tk }) : wpAny (model prog w) A (raiseErrorMade cls msg : Sem α) Q E s := by
  unfold raiseErrorMade
  exact wpAny_bind (wpAny_mkStr (wpAny_bind (wpAny_newExc_plain hp fun h' e hx => wpAny_raiseNew_none hh (h _ _ _ _ hx))) hm)
theorem raise_words {α : Type} {cls msg : String} {Q : α → Shared → Prop} (hp : PlainExc cls) (hh : A.handled = none)
    (h : ∀ h' tk e vs, Heap.MadeExc s.heap h' e cls vs → E (.ref e) { s with heap := h', toks := tk }) : wpAny (model prog w) A (raiseErrorWords cls msg : Sem α) Q E s := by
  unfold raiseErrorWords
  exact wpAny_bind (wpAny_mkText (wpAny_bind (wpAny_newExc_plain hp fun h' e hx => wpAny_raiseNew_none hh (h _ _ _ _ hx))))
noncomputable def raisesMade (cls : String) : PySem.Spec := fun A R s => A.handled = none ∧ ∀ h' tk e vs, Heap.MadeExc s.heap h' e cls vs → R (.error (.ref e)) { s with heap := h', toks := tk }
theorem raises_rindex (hm : PL.lastMark x = none) : Meets («bytes.rindex» ⟨[.bytes x.toArray t, .bytes ([62, 32] : List UInt8).toArray u], []⟩) (raisesMade "ValueError") := by
  intro prog w A R s hS
  show wpAny _ _ (Bytes.searchArgs .bytes "rindex" _ >>= _) _ _ s
  refine wpAny_bind (wpAny_of_eq (BZ.rindex_args x t u) ?_)
  have e := BZ.rindex_found x
  rw [hm] at e
  show wpAny _ _ (match Option.bind _ (fun (z : Nat × Nat) => Bytes.rfind? x.toArray #[62, 32] z.1 z.2) with | some i => retInt i | none => _) _ _ s
  rw [e]
  first
    | exact wpAny_bind (wpAny_rule (raise_words plainExc_ValueError hS.1 hS.2))
    | exact wpAny_bind (wpAny_rule (wpAny_bind (raise_words plainExc_ValueError hS.1 hS.2)))
    | (refine wpAny_bind (wpAny_rule (raise_made plainExc_ValueError hS.1 ?_ hS.2)); size_fits)
theorem rindex_not {Q : Value → Shared → Prop} (hm : PL.lastMark x = none) (hh : A.handled = none) (h : ∀ h' tk e vs, Heap.MadeExc s.heap h' e "ValueError" vs → E (.ref e) { s with heap := h', toks := tk }) :
    wpAny (model prog w) A (call (.builtin "bytes.rindex") [.bytes x.toArray t, .bytes ([62, 32] : List UInt8).toArray u]) Q E s :=
  call_meets BZ.slot_rindex (typeIs_bytes _ _ _) BZ.entry_rindex (BZ.args_rindex _ _) (raises_rindex hm) ⟨hh, fun h' tk e vs hx => h h' tk e vs hx⟩
theorem rsplit_two {p r : List UInt8} {d : UInt8} {Q : Value → Shared → Prop} (hF : Fr h₀ L s.heap m) (hN : News h₀ L s.heap news) (hz : x.length ≤ 16777215) (hm : PL.lastSp d x = some (p, r))
    (h : ∀ D t1 t2 h' k, Fr h₀ L h' m → News h₀ L h' ((D, listOf [Value.bytes p.toArray t1, Value.bytes r.toArray t2].toArray 0) :: news) → (∀ q ∈ news, q.1 < D) → Q (.ref D) { s with heap := h', toks := k }) :
    wpAny (model prog w) A (call (.builtin "bytes.rsplit") [.bytes x.toArray t, .bytes ([d] : List UInt8).toArray u, .int 1 v]) Q E s :=
  call_meets BZ.slot_rsplit (typeIs_bytes _ _ _) BZ.entry_rsplit (BZ.args_rsplit _ _ _) (BZ.meets_rsplit t u v hz) ⟨fun p' r' e t1 t2 k => by
    rw [hm] at e; cases e
    exact h _ t1 t2 _ k (hF.push _) (News.push hF hN _) fun q hq => Heap.lt_size (hN q hq).1, fun e => by rw [hm] at e; cases e⟩
theorem rsplit_one {d : UInt8} {Q : Value → Shared → Prop} (hF : Fr h₀ L s.heap m) (hN : News h₀ L s.heap news) (hz : x.length ≤ 16777215) (hm : PL.lastSp d x = none)
    (h : ∀ D t1 h' k, Fr h₀ L h' m → News h₀ L h' ((D, listOf [Value.bytes x.toArray t1].toArray 0) :: news) → (∀ q ∈ news, q.1 < D) → Q (.ref D) { s with heap := h', toks := k }) :
    wpAny (model prog w) A (call (.builtin "bytes.rsplit") [.bytes x.toArray t, .bytes ([d] : List UInt8).toArray u, .int 1 v]) Q E s :=
  call_meets BZ.slot_rsplit (typeIs_bytes _ _ _) BZ.entry_rsplit (BZ.args_rsplit _ _ _) (BZ.meets_rsplit t u v hz) ⟨fun p' r' e => (by rw [hm] at e; cases e),
    fun _ t1 k => h _ t1 _ k (hF.push _) (News.push hF hN _) fun q hq => Heap.lt_size (hN q hq).1⟩
theorem split_L {d : UInt8} {Q : Value → Shared → Prop} (hF : Fr h₀ L s.heap m) (hN : News h₀ L s.heap news) (hz : x.length ≤ 16777215)
    (h : ∀ D vs h' k, BZ.BytesAre vs (PL.splitC d x) → Fr h₀ L h' m → News h₀ L h' ((D, listOf vs.toArray 0) :: news) → (∀ q ∈ news, q.1 < D) → Q (.ref D) { s with heap := h', toks := k }) :
    wpAny (model prog w) A (call (.builtin "bytes.split") [.bytes x.toArray t, .bytes ([d] : List UInt8).toArray u]) Q E s :=
  call_meets BZ.slot_split (typeIs_bytes _ _ _) BZ.entry_split (BZ.args_split _ _) (BZ.meets_split t u hz) fun vs k hv =>
    h _ vs _ k hv (hF.push _) (News.push hF hN _) fun q hq => Heap.lt_size (hN q hq).1
theorem join_L {sep : List UInt8} {l : List (List UInt8)} {vs : List Value} {a : Addr} {Q : Value → Shared → Prop} (hl : s.heap.IsList a vs.toArray) (hv : BZ.BytesAre vs l) (hz : (PL.joinC sep l).length ≤ 1000000)
    (h : ∀ t' k, Q (.bytes (PL.joinC sep l).toArray t') { s with toks := k }) :
    wpAny (model prog w) A (call (.builtin "bytes.join") [.bytes sep.toArray t, .ref a]) Q E s :=
  call_meets BZ.slot_join (typeIs_bytes _ _ _) BZ.entry_join (BZ.args_join _ _) (BZ.meets_join t hz hv) ⟨hl, h⟩
theorem unpack_one {a : Addr} {v0 : Value} {elts : List PySem.Expr} {k : Nat} {pos : Pos} {env : Env} {Q : Unit → Shared → Prop} (hl : s.heap.IsList a #[v0]) (hh : A.handled = none) (hn : (assignEach elts env).length = 2)
    (hstar : (assignEach elts env).findIdx? (·.1) = none)
    (h : ∀ h' tk e vs, Heap.MadeExc s.heap h' e "ValueError" vs → E (.ref e) { s with heap := h', toks := tk }) :
    wpAny (model prog w) A (assign (.Tuple elts k pos) env (.ref a)) Q E s := by
  have hlt : a ≠ s.heap.objs.size := by obtain ⟨o, ho, _⟩ := hl; exact Nat.ne_of_lt (Heap.lt_size ho)
  rw [assign_Tuple]
  refine wpAny_bind (wpAny_standAt ?_)
  unfold unpack
  rw [hn, hstar]
  refine wpAny_bind (wpAny_holding ?_)
  unfold unpackItems
  refine wpAny_bind ?_
  unfold notIterableAtAll
  refine wpAny_bind (wpAny_specialOf hl.typeIs slot_list_iter.lookup ?_)
  refine wpAny_pure ?_
  simp only [Bool.false_eq_true, if_false]
  refine wpAny_bind (wpAny_holding (wpAny_pyIter_list hl ?_))
  refine wpAny_bind (wpAny_holding ?_)
  show wpAny _ _ (pyNext _ >>= _) _ _ _
  refine wpAny_bind (wpAny_pyNext_list_item (⟨_, Heap.get?_push_size _ rfl, rfl, rfl⟩ : Heap.IsListIter _ s.heap.objs.size a 0) (hl.push _) (x := v0) rfl fun h₁ hit₁ hs₁ => ?_)
  have hl₁ : h₁.IsList a #[v0] := (hl.push _).extBut hs₁.extBut hlt
  refine wpAny_bind (wpAny_holding ?_)
  show wpAny _ _ (pyNext _ >>= _) _ _ _
  refine wpAny_bind (wpAny_pyNext_list_end hh hit₁ hl₁ (by simp) fun h₂ he₂ => wpAny_pure (wpAny_pure ?_))
  rw [if_pos (show ([v0] : List Value).length < 2 from Nat.lt_succ_self 1)]
  refine wpAny_bind (wpAny_rule ?_)
  have st : ∀ b o, s.heap.get? b = some o → h₂.get? b = some o := fun b o e =>
    have hb : b ≠ s.heap.objs.size := Nat.ne_of_lt (Heap.lt_size e)
    he₂ b o hb (hs₁.extBut b o hb (Heap.get?_push_of_some _ e))
  have up : ∀ b, h₂.get? b = none → s.heap.get? b = none := fun b e => by
    cases q : s.heap.get? b with
    | none => rfl
    | some o => rw [st b o q] at e; cases e
  refine wpAny_bind (raise_made plainExc_ValueError hh (by show (PySem.Str.ofString (toString "not enough values to unpack (expected " ++ toString 2 ++ toString ", got " ++ toString 1 ++ toString ")")).length ≤ sizeLine; decide +kernel) fun h' tk e vs hx => h h' tk e vs ⟨fun b o q => hx.keeps b o (st b o q), up _ hx.new, ?_⟩)
  obtain ⟨t, a1, a2, a3⟩ := hx.there
  exact ⟨t, a1, up _ a2, a3⟩
theorem item_BL {value slice : PySem.Expr} {a : Addr} {vs : List Value} {l : List (List UInt8)} {i : Int} {Q : Value → Shared → Prop} (hl : s.heap.IsList a vs.toArray) (hv : BZ.BytesAre vs l) (h0 : 0 ≤ i) (h1 : i < (l.length : Int)) (h63 : i < 2 ^ 63)
    (h : ∀ t, Q (.bytes (l.getD i.toNat []).toArray t) s)
    (hs : subscripted slice false (.ref a) (.int i u) = operate [.ref a, .int i u] (getItem (.ref a) (.int i u)) := by with_unfolding_all rfl) :
    wpAny (model prog w) A (subscriptTail value slice (.ref a) (.int i u)) Q E s := by
  obtain ⟨t, e⟩ := hv.2 i.toNat
  have hlt : i.toNat < l.length := by omega
  refine tail_any hl.typeIs slot_list_getitem.lookup (wpAny_getItem_list hl h0 h63 (x := .bytes (l.getD i.toNat []).toArray t) ?_ (h t)) hs
  rw [List.getElem?_eq_getElem hlt] at e
  rw [List.getD_eq_getElem?_getD, List.getElem?_eq_getElem hlt]
  simpa using e
end
end BW
end
section
open _root_.PySem _root_.PySem.W _root_.PySem.Spec _root_.PySem.Calls _root_.PyProof.Rows _root_.PySem.Builtin
section
variable {prog : Program} {w : World} {A₀ : Around} {E : Value → Shared → Prop} {s' : Shared} {base g h : Heap} {outer : List Env} {L a e : Addr} {m : Str → Option Value} {name : Str} {scope : Scope} {cd cls : Value} {vs : List Value}
  {news : List (Addr × Obj)} {hs : List ExceptHandler} {Q : Flow → Shared → Prop}
end
end
section
open _root_.PySem _root_.PySem.W _root_.PySem.Spec _root_.PySem.Calls _root_.PyProof.Rows _root_.PySem.Builtin
section
variable {prog : Program} {w : World} {A : Around} {E : Value → Shared → Prop} {s : Shared} {name : Str} {scope : Scope} {L a : Addr} {cd : Value} {g : Heap} {m mg : Str → Option Value}
  {x n : Str} {C e1 : Addr} {B newId initId X : String} {bm : List Value} {np cpos pos p1 p2 : Pos} {Q : Flow → Shared → Prop} {ws : Array Value} {o1 : Obj}

structure MadeFrom (h h' : Heap) (e : Addr) (cls : Value) (e1 t : Addr) : Prop where
  keeps : ∀ b o, h.get? b = some o → h'.get? b = some o
  new : h.get? e = none
  newT : h.get? t = none
  there : h'.get? e = some { cls := cls, data := .fields #[.ref t, .none, .ref e1, .ref e1, .bool true, .none] }
  tup : h'.get? t = some { cls := .type "tuple", data := .seq #[.ref e1] }

theorem codeAny_builtinE {prog : Program} {w : World} {A : Around} {R : Result → Shared → Prop} {s : Shared} {id : String} {args : Args} {b : Builtin} (hb : entryFor table id = some b)
    (h : wpAny (model prog w) (A.under (.builtin id args)) (b args)
      (fun fin s' => match fin with | .done f => R (.ok f) s' | .again c' => c'.quiet = true ∧ codeAny (model prog w) A c' R s') (fun e s' => R (.error e) s') s) :
    codeAny (model prog w) A (.builtin id args) R s := by
  refine codeAny_of_tree ?_
  show wpAny _ _ (match entryFor table id with | some b => b args | none => unsupported ((withoutEnding? id "#data").getD id)) _ _ s
  rw [hb]; exact h
theorem entry_unchain : entryFor table "proto.unchain" = some Builtin.«proto.unchain» := entryFor_of_tree (by kernel_rfl)
set_option maxHeartbeats 2000000 in
theorem raise_from (F : Fr g L s.heap m) (hg : g.Ns mainGlobals mg) (O : OwnCls x C bm newId mg g) (FB : ExcBaseFacts B newId initId bm) (FX : ExcRaiseFacts X)
    (hm : m n = some (.ref e1)) (ho1 : s.heap.get? e1 = some o1) (hc1 : o1.cls = .type X) (hd1 : o1.data = .fields ws) (hw2 : ws[2]? = some .none) (hh : A.handled = some (.ref e1))
    (h : ∀ h' e t, MadeFrom s.heap h' e (.ref C) e1 t → E (.ref e) { s with heap := h' })
    (hk : scope.kind = .function := by rfl) (hx : (envOf name scope L a cd).kindOf x = some .globalImplicit := by rfl) (hd : (x == ("__debug__" : Str)) = false := by decide)
    (hl : (envOf name scope L a cd).kindOf n = some .local := by rfl) (hdn : (n == ("__debug__" : Str)) = false := by decide) :
    wpAny (model prog w) A (exec (.Raise (some (.Call (.Name x np) [.Name n p1] [] cpos)) (some (.Name n p2)) pos) (envOf name scope L a cd)) Q E s := by
  refine byName fun GG hGG => ?_
  obtain ⟨tl, N, nm, q, bs, hdct, sn, sub, ab, col, dd, k0, k1, k2, k3, k5, mN, hC, hN, hni, T⟩ := O.obj
  refine hGG ?_
  clear hGG GG
  have hbase := T.hasType FB.hasBase
  have hcB : (Value.ref C :: tl).contains (.type "BaseException") = true := by rw [List.contains_cons, hbase, Bool.or_true]
  rw [arm_exec_Raise]
  refine wpAny_bind (wpAny_standAt ?_)
  show wpAny _ A (raiseStmt _ (some (do let v ← eval _ _; standAt pos; pure v)) (some (do let v ← eval _ _; standAt pos; pure v))) Q E s
  unfold raiseStmt
  refine wpAny_bind (wpAny_bind (wpAny_Call_ofName (ld_own F hg O ?_ hk hx hd)))
  unfold callWith
  refine wpAny_bind (wpAny_holding (Calls.evalArgs_plain (spliced_more (ld F hm (spliced_none ?_) hk hl hdn))))
  refine wpAny_bind (wpAny_standAt ?_)
  have hC₁ := F.keep _ _ hC
  have hN₁ := hN.keeps F.keep
  have T₁ := T.keeps F.keep
  obtain ⟨hp, gs, dr, tk, os⟩ := s
  refine wpAny_bind (wpAny_keeperOf_exc hC₁ ?_)
  refine wpAny_bind (wpAny_call_exc_subT (hrest := by show (1 : Nat) ≤ sizeLine; rw [sizeLine_eq]; decide) FB T₁ hC₁ hN₁ hni fun h' e hm' => wpAny_bind (wpAny_holding (wpAny_point (wpAny_pure ?_))))
  refine wpAny_bind (wpAny_standAt (wpAny_pure ?_))
  obtain ⟨t, he, htn, ht⟩ := hm'.there
  have F' : Fr g L h' m := ⟨F.ns.keeps hm'.keeps, fun b o q => hm'.keeps _ _ (F.keep b o q), F.above⟩
  refine wpAny_bind (wpAny_holding (wpAny_bind (ld F' hm (wpAny_bind (wpAny_standAt (wpAny_pure (wpAny_bind (wpAny_pure ?_))))) hk hl hdn)))
  have hC₂ := hm'.keeps _ _ hC₁
  have he1 := hm'.keeps _ _ ho1
  have hsub := FX.isExc
  have hmeta := FX.plainMeta
  dsimp only
  have he1' : h'.get? e1 = some o1 := he1
  repeat (first | with_reducible refine wpAny_loadPart_at he ?_ | with_reducible refine wpAny_loadPart_at hC₂ ?_ | (with_reducible refine wpAny_isSubtype_exc hC₂ ?_; rw [hcB]) | with_reducible refine wpAny_loadPart_at he1' ?_  | wp_step)
  rw [hc1]
  refine wpAny_of_eq hsub (wpAny_pure ?_)
  refine wpAny_bind (wpAny_setField_rec he (by simp) fun h₃ he₃ sb₃ => ?_)
  refine wpAny_bind (wpAny_setField_rec he₃ (by simp) fun h₄ he₄ sb₄ => ?_)
  have hCe : C ≠ e := fun q => by have := hm'.new; rw [← q] at this; rw [this] at hC₁; cases hC₁
  have h1e : e1 ≠ e := fun q => by have := hm'.new; rw [← q] at this; rw [this] at ho1; cases ho1
  have hte : t ≠ e := fun q => by rw [← q] at he; rw [he] at ht; cases ht
  have sb : ∀ b, b ≠ e → h₄.get? b = h'.get? b := fun b hb => (sb₄.2 b hb).trans (sb₃.2 b hb)
  have hC₄ := (sb C hCe).trans hC₂
  have he1₄ := (sb e1 h1e).trans he1'
  have he₄' : h₄.get? e = some { cls := .ref C, data := .fields #[.ref t, .none, .none, .ref e1, .bool true, .none] } := he₄
  repeat (first | with_reducible refine wpAny_loadPart_at he₄' ?_ | with_reducible refine wpAny_loadPart_at hC₄ ?_ | (with_reducible refine wpAny_isSubtype_exc hC₄ ?_; rw [hcB]) | with_reducible refine wpAny_loadPart_at he1₄ ?_  | wp_step)
  unfold raiseNew
  refine wpAny_bind (wpAny_handled ?_)
  rw [hh]
  dsimp only
  have hne : (Value.ref e1 != Value.ref e) = true := by
    rw [bne_iff_ne]; intro q; exact h1e (Value.ref.inj q)
  rw [if_pos hne]
  refine wpAny_bind (wpAny_holding (wpAny_runValue (codeAny_builtinE entry_unchain ?_)))
  show wpAny _ _ (field (.ref e1) 2 >>= _) _ _ _
  refine wpAny_bind (wpAny_field he1₄ hd1 hw2 ?_)
  rw [if_pos (by rfl)]
  refine wpAny_pure ?_
  dsimp only
  unfold updateField
  refine wpAny_bind (wpAny_bind (wpAny_load he₄' ?_))
  dsimp only
  rw [if_pos (by simp)]
  refine wpAny_update he₄' (wpAny_throw ?_)
  refine h _ e t ⟨fun b o q => ?_, hm'.new, htn, ?_, ?_⟩
  · have hb : b ≠ e := fun z => by have := hm'.new; rw [← z] at this; rw [this] at q; cases q
    rw [Heap.get?_update_other _ _ (Ne.symm hb), sb b hb]
    exact hm'.keeps _ _ q
  · rw [Heap.get?_update_self _ he₄' rfl]; rfl
  · rw [Heap.get?_update_other _ _ (Ne.symm hte), sb t hte]
    exact ht
end

theorem funFrames_but {h h' base : Heap} {L : Addr} (hs : Heap.SameBut L h h') : ∀ {l : List Env}, h.FunFrames base l → L ∉ l.filterMap (·.frame) → h'.FunFrames base l := by
  intro l
  induction l with
  | nil => exact fun _ _ => trivial
  | cons env l ih =>
    intro H hm
    obtain ⟨hk, ⟨L', o, hf, hn, ho, hd⟩, hr⟩ := H
    exact ⟨hk, ⟨L', o, hf, hn, (hs.2 L' fun q => hm (List.mem_filterMap.mpr ⟨env, .head _, q ▸ hf⟩)).trans ho, hd⟩,
      ih hr fun q => hm (by obtain ⟨x, hx, e⟩ := List.mem_filterMap.mp q; exact List.mem_filterMap.mpr ⟨x, .tail _ hx, e⟩)⟩
theorem traced_but {h h' base : Heap} {L e : Addr} {cls a0 fl : Value} (hs : Heap.SameBut L h h') (x : h.TracedAtW base e cls a0 fl) (hL : ∀ o vs, h.get? L = some o → o.data ≠ .fields vs) : h'.TracedAtW base e cls a0 fl := by
  refine byName fun GG hGG => ?_
  obtain ⟨oe, vs, T, oT, ts, he, hc, hd, h1, hn, hTe, hT, hdT, h3⟩ := x
  refine hGG ?_
  clear hGG GG
  refine ⟨oe, vs, T, oT, ts, (hs.2 e fun q => ?_).trans he, hc, hd, h1, hn, hTe, (hs.2 T fun q => ?_).trans hT, hdT, h3⟩
  · exact hL oe vs (q ▸ he) hd
  · exact hL oT ts (q ▸ hT) hdT

theorem flight_same {M : Model} {A : Around} {E : Value → Shared → Prop} {s : Shared} {B : Heap} {l : List Env} {e L : Addr} {cls a0 : Value} {Q : Unit → Shared → Prop} (hkb : B.StaysIn s.heap) (hl : s.heap.FunFrames B l) (ht : s.heap.TracedAtW B e cls a0 (rawInt L))
    (hQ : ∀ h', B.StaysIn h' → h'.FunFrames B l → h'.TracedAtW B e cls a0 (rawInt L) → s.heap.UpToSlots h' → Q () { s with heap := h' }) : wpAny M A (setFlight (.ref e) (some L)) Q E s := by
  refine byName fun GG hGG => ?_
  obtain ⟨oe, vs, T, oT, ts, he, hcls, hd, h1, hnT, hTe, hT, hdT, h3⟩ := ht
  refine hGG ?_
  clear hGG GG
  have hsz3 : 3 < ts.size := (Array.getElem?_eq_some_iff.mp h3).1
  unfold setFlight
  refine wpAny_bind (wpAny_field he hd h1 ?_)
  rw [if_pos (by simp)]
  refine wpAny_setField hT hdT hsz3 (hQ _ (fun b o q => ?_) (hl.of_keeps fun b o q nf => ⟨o, ?_, rfl⟩) ?_ fun b o q nf => ⟨o.slots, ?_⟩)
  · rw [Heap.get?_update_other _ _ (fun z => by rw [← z, hnT] at q; cases q)]; exact hkb b o q
  · rw [Heap.get?_update_other _ _ (fun z => by rw [← z, hT] at q; cases q; exact nf _ hdT)]; exact q
  · refine ⟨oe, vs, T, _, _, ?_, hcls, hd, h1, hnT, hTe, Heap.get?_update_self _ hT (Obj.isFreed_of_fields (Obj.data_mapFields hdT _)), Obj.data_mapFields hdT _, by simp [hsz3]⟩
    rw [Heap.get?_update_other _ _ hTe]; exact he
  · rw [Heap.get?_update_other _ _ (fun z => by rw [← z, hT] at q; cases q; exact nf _ hdT)]; exact q

section
variable {prog : Program} {w : World} {A₀ : Around} {E E₂ : Value → Shared → Prop} {s' : Shared} {base g h : Heap} {outer : List Env} {L a e e1 t : Addr} {m : Str → Option Value} {name n : Str} {scope : Scope} {cd cls : Value} {pos : Pos}
  {Q₂ : Unit → Shared → Prop} {news : List (Addr × Obj)}
theorem suite_left (hx : MadeFrom h s'.heap e cls e1 t) (F : Fr g L h m) (N : News g L h news) (K : Below A₀ base outer g)
    (k : ∀ h' tk, RaisedS base g outer e cls t [.ref e1] news h' → RaisedK base outer e cls t [.ref e1] news h' → g.UpToSlots h' → Q₂ () { s' with heap := h', toks := tk })
    (hE : ∀ s'', wpAny (model prog w) (A₀.deeper (envOf name scope L a cd)) (leaving (envOf name scope L a cd) (.ref e)) Q₂ E₂ s'' → E (.ref e) s'')
    (hk : scope.kind = .function := by rfl) (hlo : (envOf name scope L a cd).kindOf n = some .local := by rfl) :
    AsSuiteRaised (model prog w) ((A₀.deeper (envOf name scope L a cd)).mark (some (.ref e1))) (envOf name scope L a cd) n pos
      (notedBy (model prog w) ((A₀.deeper (envOf name scope L a cd)).mark (some (.ref e1))) (envOf name scope L a cd) (cameBackBy (model prog w) (A₀.deeper (envOf name scope L a cd)) (envOf name scope L a cd) E)) (.ref e) s' := by
  have K' := K.push (name := name) (a := a) (cd := cd) F hk
  let B := hideAll h ((envOf name scope L a cd :: outer).filterMap (·.frame))
  have hin : ∀ env ∈ (envOf name scope L a cd :: outer), ∀ b, env.frame = some b → b ∈ (envOf name scope L a cd :: outer).filterMap (·.frame) := fun env he b hb => List.mem_filterMap.mpr ⟨env, he, hb⟩
  have sb : base.StaysIn B := fun b o q => hideAll_get _ (K'.stays b o q) fun hm => by
    rw [(K'.frames.mem hm).1] at q; cases q
  have sg : ∀ b o, g.get? b = some o → b ∉ outer.filterMap (·.frame) → B.get? b = some o := fun b o q nm => hideAll_get _ (F.keep b o q) fun hm => by
    rcases kts_mem hm with z | z
    · rw [z, kts_self F] at q
      cases q
    · exact nm z
  have hBL : B.get? L = none := hideAll_none _ (by simp [envOf])
  have nL : L ∉ outer.filterMap (·.frame) := fun q => by
    obtain ⟨_, o, ho, _⟩ := K.frames.mem q
    rw [kts_self F] at ho; cases ho
  have sB : ∀ b o, B.get? b = some o → s'.heap.get? b = some o := fun b o q => hx.keeps b o (of_hideAll _ q)
  have fB : s'.heap.FunFrames B (envOf name scope L a cd :: outer) := (funFrames_hide K'.frames hin).of_keeps fun b o hb _ => ⟨o, hx.keeps b o hb, rfl⟩
  have fresh : ∀ b, h.get? b = none → B.get? b = none := fun b hb => by
    cases hq : B.get? b with
    | none => rfl
    | some o' => have := of_hideAll _ hq; rw [hb] at this; cases this
  show wpAny _ _ (noteFrame _ _) _ _ _
  unfold noteFrame
  dsimp only [envOf]
  refine wpAny_bind (wpAny_field hx.there rfl (x := .none) rfl ?_)
  rw [if_neg (by decide)]
  refine wpAny_entryW (a0 := .ref t) K'.stack fB rfl hx.there sB (fresh e hx.new) rfl (by simp) rfl fun h₄ hn => ?_
  obtain ⟨k1, k2, k3, k4⟩ := hn
  have u4 : h.UpToSlots h₄ := (Heap.UpToSlots.of_keeps hx.keeps).trans k4
  have ns4 : h₄.Ns L m := u4.ns F.ns
  refine wpAny_nameGoes (m := m) (by exact hlo) ns4 (by simp [hk]) fun h₅ m₅ ns5 s5 => ?_
  have t5 : h₅.TracedAtW B e cls (.ref t) (rawInt L) := traced_but s5 k3 fun o vs q1 q2 => by
    obtain ⟨o', es, ep, q3, q4, _⟩ := ns4
    rw [q1] at q3; cases q3; rw [q2] at q4; cases q4
  have f5 : h₅.FunFrames B (envOf name scope L a cd :: outer) := Heap.FunFrames.cons (by show scope.kind ≠ .module; rw [hk]; decide) rfl ns5 hBL (funFrames_but s5 k2.2.2 nL)
  have b5 : B.StaysIn h₅ := fun b o q => (s5.2 b fun z => by rw [z, hBL] at q; cases q).trans (k1 b o q)
  have u5 : g.UpToSlots h₅ := fun b o q nf => by
    obtain ⟨sl, hs⟩ := u4 b o (F.keep b o q) nf
    exact ⟨sl, (s5.2 b fun z => by rw [z, kts_self F] at q; cases q).trans hs⟩
  have tu5 : h₅.TupAt t [.ref e1] := by
    obtain ⟨sl, hs⟩ := k4 t _ hx.tup (fun ws q => by cases q)
    refine ⟨_, 0, (s5.2 t fun z => ?_).trans hs, rfl, rfl⟩
    obtain ⟨o', _, _, q3, q4, _⟩ := F.ns
    have := hx.newT; rw [z, q3] at this; cases this
  unfold PySem.passOn
  obtain ⟨oe, vs, T, oT, ts, he, hc, hd, h1, hr⟩ := id t5
  refine wpAny_bind (wpAny_field he hd h1 ?_)
  rw [if_neg (by simp)]
  refine wpAny_bind (flight_same b5 f5 t5 fun h₆ b6 f6 t6 u6 => wpAny_throw ?_)
  show wpAny _ _ (noteFrame _ _) _ _ _
  refine wpAny_noteFrame_againW rfl t6 ?_
  show wpAny _ _ _ _ _ _
  obtain ⟨oe, vs, T, oT, ts, he, hc, hd, h1, hr⟩ := id t6
  refine wpAny_bind (wpAny_field he hd h1 ?_)
  rw [if_neg (by simp)]
  refine flight_same b6 f6 t6 fun h₇ b7 f7 t7 u7 => hE _ ?_
  unfold leaving
  refine wpAny_bind (wpAny_noteFrame_againW rfl t7 ?_)
  refine wpAny_landsW (base := B) (l := envOf name scope L a cd :: outer) (cls := cls) (a0 := .ref t) (L := L) ⟨b7, fresh e hx.new, f7, t7⟩ fun h₈ hfl u8 => ?_
  obtain ⟨z1, z2, ⟨_, _, z3⟩, z4⟩ := hfl
  have hl : ∀ q ∈ news, B.get? q.1 = some q.2 ∧ g.get? q.1 = none ∧ base.get? q.1 = none := fun q hq => by
    refine ⟨hideAll_get _ (N q hq).1 fun hm => ?_, (N q hq).2.2, fresh_of_stays K.stays (N q hq).2.2⟩
    rcases kts_mem hm with z | z
    · exact (N q hq).2.1 z
    · obtain ⟨o, ho, _⟩ := (K.frames.mem z).2
      rw [(N q hq).2.2] at ho; cases ho
  have R : RaisedS base g outer e cls t [.ref e1] news h₈ := ⟨⟨B, sb, sg, hl, ⟨z1, z2, z3, z4⟩, fresh t hx.newT⟩, ((tu5.of_slots u6).of_slots u7).of_slots u8⟩
  exact k h₈ _ R R.toK (((u5.trans u6).trans u7).trans u8)
end
end
section
open _root_.PySem _root_.PySem.W _root_.PySem.Spec _root_.PySem.Calls _root_.PyProof.Rows _root_.PySem.Builtin
noncomputable def Alone (e : Addr) (h : Heap) : Prop := ∃ oe ws, h.get? e = some oe ∧ oe.data = .fields ws ∧ ws[2]? = some .none
section
variable {M : Model} {A : Around} {E : Value → Shared → Prop} {s : Shared}
theorem entry2 {base : Heap} {env : Env} {outer : List Env} {L e : Addr} {oe : Obj} {vs : Array Value} {head a0 : Value} {hadNext : Bool} {Q : Unit → Shared → Prop}
    (hfr : A.frames = some (env :: outer)) (hl : s.heap.FunFrames base (env :: outer)) (hf : env.frame = some L)
    (he : s.heap.get? e = some oe) (hkb : base.StaysIn s.heap) (hen : base.get? e = none) (hd : oe.data = .fields vs) (hsz : 1 < vs.size) (h0 : vs[0]? = some a0) (h2 : vs[2]? = some .none)
    (h : ∀ h', Heap.NotedW base (env :: outer) e oe.cls a0 (rawInt L) s.heap h' → Alone e h' → Q () { s with heap := h' }) :
    wpAny M A (do let a ← frameOf env; let pl ← entryPlaceOf L hadNext; let b ← EntryCells.newEntry head a .none (rawInt L) .none pl; setField (.ref e) 1 b) Q E s := by
  have hene : e ∉ (env :: outer).filterMap (·.frame) := fun hm => by
    obtain ⟨_, o, ho, hnf⟩ := hl.mem hm
    rw [he] at ho; injection ho with ho; subst ho; exact hnf vs hd
  refine wpAny_bind (wpAny_frameOf_fun hfr hl hf fun h₁ hs₁ => ?_)
  refine wpAny_bind (wpAny_entryPlaceOf fun pl hpl => ?_)
  unfold EntryCells.newEntry newFields
  refine wpAny_bind (wpAny_newObj_type ?_ (hpl.sizeOk5 _ _ _ _ _))
  have he₁ : h₁.get? e = some oe := (hs₁.2.1 e hene).trans he
  have kb₁ : base.StaysIn h₁ := fun b o hbo => (hs₁.2.1 b fun hm => by rw [(hl.mem hm).1] at hbo; cases hbo).trans (hkb b o hbo)
  generalize hT : ({ cls := .type "traceback", dict := none, data := .fields ([head, .ref L, .none, rawInt L, .none] ++ (if pl.isEmpty then List.replicate 6 Value.none else pl)).toArray } : Obj) = oT
  have hTd : oT.data = .fields ([head, .ref L, .none, rawInt L, .none] ++ (if pl.isEmpty then List.replicate 6 Value.none else pl)).toArray := by rw [← hT]
  have hTf : oT.isFreed = false := Obj.isFreed_of_fields hTd
  have he₂ := Heap.get?_push_of_some (h := h₁) oT he₁
  refine wpAny_setField he₂ hd hsz ?_
  have hTe : h₁.objs.size ≠ e := Nat.ne_of_gt (Heap.lt_size he₁)
  have hd₃ := Obj.data_mapFields hd (·.setIfInBounds 1 (Value.ref h₁.objs.size))
  have he₃ := Heap.get?_update_self (Obj.mapFields (·.setIfInBounds 1 (Value.ref h₁.objs.size))) he₂ (Obj.isFreed_of_fields hd₃)
  have hT₃ := (Heap.get?_update_other (h₁.push oT) (Obj.mapFields (·.setIfInBounds 1 (Value.ref h₁.objs.size))) (Ne.symm hTe)).trans (Heap.get?_push_size h₁ hTf)
  have keep : ∀ b o, b ≠ e → h₁.get? b = some o → ((h₁.push oT).update e (Obj.mapFields (·.setIfInBounds 1 (Value.ref h₁.objs.size)))).get? b = some o := fun b o hbe hb => by
    rw [Heap.get?_update_other _ _ (Ne.symm hbe)]; exact Heap.get?_push_of_some _ hb
  have noRecord : ∀ b o, s.heap.get? b = some o → (∀ vs, o.data ≠ .fields vs) → b ≠ e := fun b o hb hnf q => by
    rw [q, he] at hb; injection hb with hb; subst hb; exact hnf vs hd
  refine h _ ⟨fun b o hbo => keep b o (fun q => by rw [q, hen] at hbo; cases hbo) (kb₁ b o hbo), hl.of_keeps fun b o hb hnf => ?_, ?_, fun b o hb hnf => ?_⟩ ⟨_, _, he₃, hd₃, ?_⟩
  · obtain ⟨sl, hs⟩ := hs₁.2.2 b o hb
    exact ⟨_, keep b _ (noRecord b o hb hnf) hs, rfl⟩
  · exact ⟨_, _, h₁.objs.size, _, _, he₃, ⟨Obj.cls_mapFields _ _, by rw [Array.getElem?_setIfInBounds_ne (by decide)]; exact h0⟩, hd₃, by simp [hsz], kb₁.fresh, hTe, hT₃, hTd, by first | (simp; done) | (rcases hpl with rfl | ⟨_, _, _, _, _, _, _, rfl⟩ <;> simp)⟩
  · obtain ⟨sl, hs⟩ := hs₁.2.2 b o hb
    exact ⟨sl, keep b _ (noRecord b o hb hnf) hs⟩
  · rw [Array.getElem?_setIfInBounds_ne (by decide)]; exact h2

theorem land2 {base : Heap} {l : List Env} {e : Addr} {cls a0 fl : Value} {Q : Unit → Shared → Prop} (hkb : base.StaysIn s.heap) (hen : base.get? e = none) (hl : s.heap.FunFrames base l) (ht : s.heap.TracedAtW base e cls a0 fl) (h2 : Alone e s.heap)
    (h : ∀ h', Heap.FlyingW base l e cls a0 h' → Alone e h' → s.heap.UpToSlots h' → Q () { s with heap := h' }) : wpAny M A (setFlight (.ref e) none) Q E s := by
  refine byName fun GG hGG => ?_
  obtain ⟨oe, vs, T, oT, ts, he, hcls, hd, h1, hnT, hTe, hT, hdT, h3⟩ := ht
  refine hGG ?_
  clear hGG GG
  have hsz3 : 3 < ts.size := (Array.getElem?_eq_some_iff.mp h3).1
  unfold setFlight
  refine wpAny_bind (wpAny_field he hd h1 ?_)
  rw [if_pos (by simp)]
  refine wpAny_setField hT hdT hsz3 (h _ ⟨fun b o q => ?_, hen, hl.of_keeps fun b o q nf => ⟨o, ?_, rfl⟩, ?_⟩ ?_ fun b o q nf => ⟨o.slots, ?_⟩)
  · rw [Heap.get?_update_other _ _ (fun z => by rw [← z, hnT] at q; cases q)]; exact hkb b o q
  · rw [Heap.get?_update_other _ _ (fun z => by rw [← z, hT] at q; cases q; exact nf _ hdT)]; exact q
  · refine ⟨oe, vs, T, _, _, ?_, hcls, hd, h1, hnT, hTe, Heap.get?_update_self _ hT (Obj.isFreed_of_fields (Obj.data_mapFields hdT _)), Obj.data_mapFields hdT _, by simp [hsz3]⟩
    rw [Heap.get?_update_other _ _ hTe]; exact he
  · obtain ⟨oe', ws, q1, q2, q3⟩ := h2
    exact ⟨oe', ws, (Heap.get?_update_other _ _ hTe).trans q1, q2, q3⟩
  · rw [Heap.get?_update_other _ _ (fun z => by rw [← z, hT] at q; cases q; exact nf _ hdT)]; exact q
theorem first2 {base : Heap} {env : Env} {outer : List Env} {L e t : Addr} {cls : Value} {Q : Unit → Shared → Prop} (hfr : A.frames = some (env :: outer)) (hf : env.frame = some L) (hkb : base.StaysIn s.heap) (hen : base.get? e = none)
    (hl : s.heap.FunFrames base (env :: outer)) (he : s.heap.get? e = some { cls := cls, data := .fields #[.ref t, .none, .none, .none, .bool false, .none] })
    (h : ∀ h', Heap.FlyingW base (env :: outer) e cls (.ref t) h' → Alone e h' → s.heap.UpToSlots h' → Q () { s with heap := h' }) :
    wpAny M A (noteFrame (.ref e) env) (fun _ s' => wpAny M A (setFlight (.ref e) none) Q E s') E s := by
  unfold noteFrame
  simp -iota only [hf]
  refine wpAny_bind (wpAny_field he rfl (x := .none) rfl ?_)
  rw [if_neg (by decide)]
  refine entry2 (a0 := .ref t) hfr hl hf he hkb hen rfl (by simp) rfl rfl fun h₄ hn h2 => ?_
  obtain ⟨k1, k2, k3, k4⟩ := hn
  exact land2 (base := base) (l := env :: outer) (cls := cls) (a0 := .ref t) (fl := rawInt L) k1 hen k2 k3 h2 fun h₅ hfl al u => h h₅ hfl al (Heap.UpToSlots.trans k4 u)
theorem next2 {base : Heap} {env : Env} {outer : List Env} {L e : Addr} {cls a0 : Value} {Q : Unit → Shared → Prop} (hfr : A.frames = some (env :: outer)) (hf : env.frame = some L) (hfl : Heap.FlyingW base (env :: outer) e cls a0 s.heap) (h2 : Alone e s.heap)
    (h : ∀ h', Heap.FlyingW base (env :: outer) e cls a0 h' → Alone e h' → s.heap.UpToSlots h' → Q () { s with heap := h' }) :
    wpAny M A (noteFrame (.ref e) env) (fun _ s' => wpAny M A (setFlight (.ref e) none) Q E s') E s := by
  obtain ⟨hkb, hen, hl, ht⟩ := hfl
  refine byName fun GG hGG => ?_
  obtain ⟨oe, vs, T, oT, ts, he, ⟨hcls, h0⟩, hd, h1, hnT, hTe, hT, hdT, h3⟩ := ht
  refine hGG ?_
  clear hGG GG
  have hv2 : vs[2]? = some .none := by
    obtain ⟨oe', ws, q1, q2, q3⟩ := h2
    rw [he] at q1; cases q1; rw [hd] at q2; cases q2; exact q3
  subst hcls
  unfold noteFrame
  simp -iota only [hf]
  refine wpAny_bind (wpAny_field he hd h1 ?_)
  rw [if_pos (by simp)]
  refine wpAny_bind (wpAny_field hT hdT h3 ?_)
  rw [if_neg (by simp [rawInt])]
  refine wpAny_bind (wpAny_setField hT hdT (Array.getElem?_eq_some_iff.mp h3).1 ?_)
  have other : ∀ b, b ≠ T → (s.heap.update T (Obj.mapFields (·.setIfInBounds 3 Value.none))).get? b = s.heap.get? b := fun b hb => Heap.get?_update_other _ _ (Ne.symm hb)
  have noRecord : ∀ b o, s.heap.get? b = some o → (∀ vs, o.data ≠ .fields vs) → b ≠ T := fun b o hb hnf q => by
    rw [q, hT] at hb; injection hb with hb; subst hb; exact hnf ts hdT
  refine entry2 (a0 := a0) hfr (hl.of_keeps fun b o hb hnf => ⟨o, (other b (noRecord b o hb hnf)).trans hb, rfl⟩) hf ((other e (Ne.symm hTe)).trans he)
    (fun b o hbo => (other b fun q => by rw [q, hnT] at hbo; cases hbo).trans (hkb b o hbo)) hen hd (Array.getElem?_eq_some_iff.mp h1).1 h0 hv2 fun h₄ hn al => ?_
  obtain ⟨k1, k2, k3, k4⟩ := hn
  refine land2 (base := base) (l := env :: outer) (cls := oe.cls) (a0 := a0) (fl := rawInt L) k1 hen k2 k3 al fun h₅ hfl al u => h h₅ hfl al (Heap.UpToSlots.trans (fun b o hb hnf => k4 b o ((other b (noRecord b o hb hnf)).trans hb) hnf) u)
end

section
variable {prog : Program} {w : World} {A₀ : Around} {E : Value → Shared → Prop} {s' : Shared} {base g h G g₂ : Heap} {outer : List Env} {L a e t : Addr} {m : Str → Option Value} {name : Str} {scope : Scope} {cd cls : Value} {vs : List Value}
  {news : List (Addr × Obj)} {hs : List ExceptHandler} {Q : Flow → Shared → Prop} {Q₁ : Unit → Shared → Prop}
theorem leaving_eq {M : Model} {A : Around} {env : Env} {x : Value} {s : Shared} (h : wpAny M A (noteFrame x env) (fun _ s' => wpAny M A (setFlight x none) Q₁ E s') E s) : wpAny M A (leaving env x) Q₁ E s := by
  unfold leaving; exact wpAny_bind h
theorem look_made2 (hx : Heap.MadeExcOf h s'.heap e cls vs) (F : Fr g L h m) (N : News g L h news) (K : Below A₀ base outer g)
    (k : ∀ h' t G, Fr g L G m → RaisedS base G (envOf name scope L a cd :: outer) e cls t vs news h' → Alone e h' → G.UpToSlots h' →
      wpAny (model prog w) (A₀.deeper (envOf name scope L a cd)) (handleBy (.ref e) (envOf name scope L a cd) hs) Q E { s' with heap := h' })
    (hk : scope.kind = .function := by rfl) :
    wpAny (model prog w) (A₀.deeper (envOf name scope L a cd)) (noteFrame (.ref e) (envOf name scope L a cd))
      (fun _ s₂ => wpAny (model prog w) (A₀.deeper (envOf name scope L a cd)) (setFlight (.ref e) none) (fun _ s₃ =>
        wpAny (model prog w) (A₀.deeper (envOf name scope L a cd)) (handleBy (.ref e) (envOf name scope L a cd) hs) Q E s₃) E s₂) E s' := by
  have K' := K.push (name := name) (a := a) (cd := cd) F hk
  obtain ⟨oL, es, ep, hLg, hLd, hN, hNs, st, B₂⟩ := kts_enter (s := { s' with heap := h }) (A := A₀.deeper (envOf name scope L a cd)) K F N K'.stack hk
  have FG : Fr g L (hideAll h (news.map (·.1))) m := ⟨hN _ hLg, st, F.above⟩
  let B := hideAll h ((envOf name scope L a cd :: outer).filterMap (·.frame))
  have hin : ∀ env ∈ (envOf name scope L a cd :: outer), ∀ b, env.frame = some b → b ∈ (envOf name scope L a cd :: outer).filterMap (·.frame) := fun env he b hb => List.mem_filterMap.mpr ⟨env, he, hb⟩
  have sb : base.StaysIn B := fun b o q => hideAll_get _ (K'.stays b o q) fun hm => by
    rw [(K'.frames.mem hm).1] at q; cases q
  have sB : ∀ b o, B.get? b = some o → s'.heap.get? b = some o := fun b o q => hx.keeps b o (of_hideAll _ q)
  have fB : s'.heap.FunFrames B (envOf name scope L a cd :: outer) := (funFrames_hide K'.frames hin).of_keeps fun b o hb _ => ⟨o, hx.keeps b o hb, rfl⟩
  have fresh : ∀ b, h.get? b = none → B.get? b = none := fun b hb => by
    cases hq : B.get? b with
    | none => rfl
    | some o' => have := of_hideAll _ hq; rw [hb] at this; cases this
  obtain ⟨t, he, htn, ht⟩ := hx.there
  have hl : ∀ q ∈ news, B.get? q.1 = some q.2 ∧ (hideAll h (news.map (·.1))).get? q.1 = none ∧ base.get? q.1 = none := fun q hq => by
    refine ⟨hideAll_get _ (N q hq).1 fun hm => ?_, hideAll_none _ (List.mem_map_of_mem hq), fresh_of_stays K.stays (N q hq).2.2⟩
    rcases kts_mem hm with z | z
    · exact (N q hq).2.1 z
    · obtain ⟨o, ho, _⟩ := (K.frames.mem z).2
      rw [(N q hq).2.2] at ho; cases ho
  have hG : ∀ b o, (hideAll h (news.map (·.1))).get? b = some o → b ∉ (envOf name scope L a cd :: outer).filterMap (·.frame) → B.get? b = some o := fun b o q nm => hideAll_get _ (of_hideAll _ q) nm
  refine first2 (base := B) (cls := cls) (t := t) K'.stack rfl sB (fresh e hx.new) fB he fun h₅ hfl al u => ?_
  exact k h₅ t _ FG ⟨⟨B, sb, hG, hl, hfl, fresh t htn⟩, Heap.TupAt.of_slots ⟨_, _, ht, rfl, rfl⟩ u⟩ al
    ((Heap.UpToSlots.of_keeps fun b o q => hx.keeps b o (of_hideAll _ q)).trans u)

theorem leave_raise2 {M : Model} {A : Around} (K : Below A base outer g) (hx : Heap.MadeExcOf h s'.heap e cls vs) (F : Fr g L h m) (N : News g L h news)
    (hQ : ∀ h' t, RaisedS base g outer e cls t vs news h' → Alone e h' → g.UpToSlots h' → Q₁ () { s' with heap := h' }) (hk : scope.kind = .function := by rfl) :
    wpAny M (A.deeper (envOf name scope L a cd)) (leaving (envOf name scope L a cd) (.ref e)) Q₁ E s' := by
  have K' := K.push (name := name) (a := a) (cd := cd) F hk
  let B := hideAll h ((envOf name scope L a cd :: outer).filterMap (·.frame))
  have hin : ∀ env ∈ (envOf name scope L a cd :: outer), ∀ b, env.frame = some b → b ∈ (envOf name scope L a cd :: outer).filterMap (·.frame) := fun env he b hb => List.mem_filterMap.mpr ⟨env, he, hb⟩
  have sb : base.StaysIn B := fun b o q => hideAll_get _ (K'.stays b o q) fun hm => by
    rw [(K'.frames.mem hm).1] at q; cases q
  have sB : ∀ b o, B.get? b = some o → s'.heap.get? b = some o := fun b o q => hx.keeps b o (of_hideAll _ q)
  have fB : s'.heap.FunFrames B (envOf name scope L a cd :: outer) := (funFrames_hide K'.frames hin).of_keeps fun b o hb _ => ⟨o, hx.keeps b o hb, rfl⟩
  have fresh : ∀ b, h.get? b = none → B.get? b = none := fun b hb => by
    cases hq : B.get? b with
    | none => rfl
    | some o' => have := of_hideAll _ hq; rw [hb] at this; cases this
  obtain ⟨t, he, htn, ht⟩ := hx.there
  have sg : ∀ b o, g.get? b = some o → b ∉ outer.filterMap (·.frame) → B.get? b = some o := fun b o q nm => hideAll_get _ (F.keep b o q) fun hm => by
    rcases kts_mem hm with z | z
    · rw [z, kts_self F] at q
      cases q
    · exact nm z
  have hl : ∀ q ∈ news, B.get? q.1 = some q.2 ∧ g.get? q.1 = none ∧ base.get? q.1 = none := fun q hq => by
    refine ⟨hideAll_get _ (N q hq).1 fun hm => ?_, (N q hq).2.2, fresh_of_stays K.stays (N q hq).2.2⟩
    rcases kts_mem hm with z | z
    · exact (N q hq).2.1 z
    · obtain ⟨o, ho, _⟩ := (K.frames.mem z).2
      rw [(N q hq).2.2] at ho; cases ho
  refine leaving_eq (first2 (base := B) (cls := cls) (t := t) K'.stack rfl sB (fresh e hx.new) fB he fun h₅ hfl al u => ?_)
  obtain ⟨z1, z2, ⟨_, _, z3⟩, z4⟩ := hfl
  exact hQ h₅ t ⟨⟨B, sb, sg, hl, ⟨z1, z2, z3, z4⟩, fresh t htn⟩, Heap.TupAt.of_slots ⟨_, _, ht, rfl, rfl⟩ u⟩ al
    (((Heap.UpToSlots.of_keeps F.keep).trans (Heap.UpToSlots.of_keeps hx.keeps)).trans u)

theorem look_on2 (R : RaisedS base G (envOf name scope L a cd :: outer) e cls t vs news s'.heap) (al : Alone e s'.heap) (K : Below A₀ base outer g) (hsm : G.UpToSlots s'.heap)
    (k : ∀ h', RaisedS base G (envOf name scope L a cd :: outer) e cls t vs news h' → Alone e h' → G.UpToSlots h' → wpAny (model prog w) (A₀.deeper (envOf name scope L a cd)) (handleBy (.ref e) (envOf name scope L a cd) hs) Q E { s' with heap := h' }) :
    wpAny (model prog w) (A₀.deeper (envOf name scope L a cd)) (noteFrame (.ref e) (envOf name scope L a cd))
      (fun _ s₂ => wpAny (model prog w) (A₀.deeper (envOf name scope L a cd)) (setFlight (.ref e) none) (fun _ s₃ =>
        wpAny (model prog w) (A₀.deeper (envOf name scope L a cd)) (handleBy (.ref e) (envOf name scope L a cd) hs) Q E s₃) E s₂) E s' := by
  obtain ⟨⟨B, hB, hBG, hl, hfl, hnew⟩, htup⟩ := R
  exact next2 (Around.frames_deeper K.stack) rfl hfl al fun h₅ hfl al u => k h₅ ⟨⟨B, hB, hBG, hl, hfl, hnew⟩, htup.of_slots u⟩ al (hsm.trans u)

variable {KF : Frag} {p : Program} {loose : List Str} {mean : ExcName → Option Value} {mg mb : Str → Option Value} {tt : Expr} {x n : Str} {C : Addr} {Bn newId initId X : String} {bm : List Value} {np cpos rpos pos p1 p2 : Pos} {E₂ : Value → Shared → Prop} {Q₂ : Addr → Unit → Shared → Prop}
theorem hit2 (R : RaisedS base G (envOf name scope L a cd :: outer) e (.type X) t vs news s'.heap) (al : Alone e s'.heap) (F : Fr g L G m) (K : Below A₀ base outer g) (hsm : G.UpToSlots s'.heap) (XB : KF.In base) (TB : Top p loose mean mg mb base)
    (D : KtsDicts (outer.filterMap (·.frame)) g) (T : KtsTest prog w KF p loose mg mb name scope L a cd (.type X) tt true)
    (FB : ExcBaseFacts Bn newId initId bm) (FX : ExcRaiseFacts X) (ex : nsIn KF mainGlobals x = some (some (.ref C))) (qe : excIn KF C bm newId = true)
    (k : ∀ h' tk e2 t2, RaisedS base g outer e2 (.ref C) t2 [.ref e] news h' → RaisedK base outer e2 (.ref C) t2 [.ref e] news h' → g.UpToSlots h' → Q₂ e2 () { s' with heap := h', toks := tk })
    (hE : ∀ e2 s'', wpAny (model prog w) (A₀.deeper (envOf name scope L a cd)) (leaving (envOf name scope L a cd) (.ref e2)) (Q₂ e2) E₂ s'' → E (.ref e2) s'')
    (hk : scope.kind = .function := by rfl) (hlo : (envOf name scope L a cd).kindOf n = some .local := by rfl) (hxk : (envOf name scope L a cd).kindOf x = some .globalImplicit := by rfl) (hxd : (x == ("__debug__" : Str)) = false := by decide) (hnd : (n == ("__debug__" : Str)) = false := by decide) :
    wpAny (model prog w) (A₀.deeper (envOf name scope L a cd)) (handleBy (.ref e) (envOf name scope L a cd) [.ExceptHandler (some tt) (some n) [.Raise (some (.Call (.Name x np) [.Name n p1] [] cpos)) (some (.Name n p2)) rpos] pos]) Q E s' := by
  have R' := R
  obtain ⟨⟨B₁, _, hBG₁, _, hfl₁, _⟩, _⟩ := R'
  obtain ⟨g₅, T₅, F₅, K₅⟩ := kts_ground K F hBG₁ hfl₁.1 hsm
  refine wpAny_handleBy_cons (codeAny_handlers_test (T _ _ _ _ g₅ e m F₅ (XB.keeps K₅.stays) (topRead_of (TB.keeps K₅.stays)) R.toSN.ty fun h₅ kp => ?_)) (by intro q; cases q)
  have hsm₅ : G.UpToSlots h₅ := hsm.trans (Heap.UpToSlots.of_keeps kp)
  obtain ⟨⟨B, hB, hBG, hl, hheld, hnew⟩, htup⟩ := R.keeps kp
  have al₅ : Alone e h₅ := by obtain ⟨oe, ws, q1, q2, q3⟩ := al; exact ⟨oe, ws, kp _ _ q1, q2, q3⟩
  refine codeAny_handlers_suite_as ?_
  refine land2 (base := B) (l := envOf name scope L a cd :: outer) (cls := .type X) (a0 := .ref t) hheld.1 hheld.2.1 hheld.2.2.1 hheld.2.2.2.at al₅ fun h₆ hfl₆ al₆ hsm₆ => ?_
  obtain ⟨g₆, T₆, F₆, K₆⟩ := kts_ground K F hBG hfl₆.1 (hsm₅.trans hsm₆)
  obtain ⟨oe, ws, q1, q2, q3⟩ := al₆
  obtain ⟨ob, hob, hobc⟩ := hfl₆.there
  have hoe : ob = oe := by rw [q1] at hob; cases hob; rfl
  subst hoe
  have ne₆ : g₆.get? e = none := T₆.none_ _ (kts_fresh F hBG hfl₆.2.1 fun o ho m => by
    obtain ⟨_, o', ho', hd⟩ := K.frames.mem m
    rw [ho] at ho'; cases ho'
    obtain ⟨sl, hs⟩ := (hsm₅.trans hsm₆) _ _ (F.keep _ _ ho) hd
    rw [q1] at hs; cases hs
    exact hd _ q2)
  have Ne : News g₆ L h₆ [(e, ob)] := News.more F₆ News.nil q1 (fun es n q => by rw [q2] at q; cases q) ne₆
  have hL : B.get? L = none := by
    obtain ⟨_, ⟨L', _, hf, hn', _⟩, _⟩ := hheld.2.2.1
    obtain rfl : L = L' := Option.some.inj hf
    exact hn'
  have ng : ∀ q ∈ news, g.get? q.1 = none := fun q hq => kts_none F.keep (hl q hq).2.1
  have Nl : News g₆ L h₆ news := fun q hq => ⟨hfl₆.1 _ _ (hl q hq).1, (fun z => by have := (hl q hq).1; rw [z, hL] at this; cases this), T₆.none_ _ (ng q hq)⟩
  refine stN F₆ (news := (e, ob) :: news) (fun q hq => (List.mem_cons.mp hq).elim (fun z => z ▸ Ne _ (.head _)) (Nl q)) (fun h₇ F₇ N₇ => ?_) hk hlo
  refine wpAny_execs_cons ?_
  have X₆ : KF.In g₆ := XB.keeps K₆.stays
  have P₆ : Top p loose mean mg mb g₆ := TB.keeps K₆.stays
  have hob₇ : h₇.get? e = some ob := (N₇ _ (.head _)).1
  have T₆' := T₆
  refine raise_from F₇ (topRead_of P₆).g (own_of_in X₆ (topRead_of P₆) ex qe) FB FX (if_pos rfl) hob₇ hobc q2 q3 rfl (fun h' e2 t2 hx => ?_) hk hxk hxd hlo hnd
  refine suite_left (E₂ := E₂) hx F₇ (news := news) (fun q hq => N₇ q (.tail _ hq)) K₆ (fun h' tk R2 R3 u => ?_) (hE e2) hk hlo
  have u' : g.UpToSlots h' := fun b o q nf => by
    by_cases m : b ∈ outer.filterMap (·.frame)
    · obtain ⟨sl, hs⟩ := T₆.frame b o q m
      obtain ⟨sl', hs'⟩ := u b _ hs nf
      exact ⟨sl', hs'⟩
    · exact u b o (T₆.other b o q m) nf
  have R2' : RaisedS base g outer e2 (.ref C) t2 [.ref e] news h' := by
    obtain ⟨⟨B, y1, y2, y3, y4⟩, y5⟩ := R2
    exact ⟨⟨B, y1, fun b o q m => y2 b o (T₆.other b o q m) m, (fun q hq => ⟨(y3 q hq).1, ng q hq, (y3 q hq).2.2⟩), y4⟩, y5⟩
  exact k h' tk e2 t2 R2' R3 u'
end
end
section
open _root_.PySem _root_.PySem.W _root_.PySem.Spec _root_.PySem.Calls _root_.PyProof.Rows _root_.PySem.Builtin
namespace BE
open Builtin._codecs
noncomputable def octs (x : PySem.Str) : List UInt8 := x.cps.toList.map (·.toUInt8)
theorem fold_octs : ∀ (l : List Nat) (acc : Array UInt8), l.foldl (fun acc y => acc ++ ((fun c => [Nat.toUInt8 c]) y).toArray) acc = acc ++ (l.map (·.toUInt8)).toArray
  | [], acc => by simp
  | c :: l, acc => by
    rw [List.foldl_cons, fold_octs l]
    simp
theorem narrow {M : Model} {A : Around} {E : Value → Shared → Prop} {s : Shared} {id : String} {self : Value} {x : PySem.Str} {Q : Array UInt8 → Shared → Prop} (hx : ∀ c ∈ x.cps.toList, c < 128) (hz : x.cps.size ≤ sizeLine)
    (h : Q (octs x).toArray s) : wpAny M A (encodeNarrow id asciiCodec none self x) Q E s := by
  have hbad : x.cps.findIdx? asciiCodec.bad = none := by
    rw [Array.findIdx?_eq_none_iff]
    intro c hc
    have := hx c (Array.mem_toList_iff.mpr hc)
    show decide (c ≥ 128) = false
    simp; omega
  unfold encodeNarrow
  dsimp only
  refine wpAny_bind ?_
  first
    | rw [Std.Legacy.Range.forIn_eq_forIn_range']
    | rw [Std.Range.forIn_eq_forIn_range']
  refine wpAny_mono (wpAny_forIn_list _ (fun (rest : List Nat) (b : Nat × Array UInt8 × Faults) s' => s' = s ∧ ((b.1 = 0 ∧ b.2.1 = #[] ∧ rest.length = x.cps.size) ∨ (b.1 = x.cps.size ∧ b.2.1 = (octs x).toArray))) (fun b s' => s' = s ∧ b.2.1 = (octs x).toArray) ?_ ?_ _ _ ?_) (fun b s' hb => ?_) (fun _ _ z => z)
  · rintro k rest ⟨i, out, st⟩ s' ⟨rfl, hI⟩
    dsimp only at hI ⊢
    rcases hI with ⟨rfl, rfl, hl⟩ | ⟨rfl, rfl⟩
    · rw [if_neg (by simp)]
      have h0 : 0 < x.cps.size := by rw [← hl]; simp
      have hx0 : x.cps[0]? = some x.cps[0] := Array.getElem?_eq_getElem h0
      rw [hx0]
      dsimp only
      have hb0 : asciiCodec.bad x.cps[0] = false := by
        have := hx x.cps[0] (by simp)
        show decide (x.cps[0] ≥ 128) = false
        simp; omega
      rw [hb0]
      rw [if_pos (by rfl)]
      refine wpAny_pure ⟨rfl, .inr ?_⟩
      have he : x.cps.extract 0 = x.cps := by simp
      rw [he, hbad]
      simp only [Option.getD_none, Nat.zero_add, true_and]
      rw [he, ← Array.foldl_toList]
      have := fold_octs x.cps.toList #[]
      simp only [Array.empty_append] at this
      exact this
    · rw [if_neg (by simp [octs]; omega)]
      have hx1 : x.cps[x.cps.size]? = none := by simp
      rw [hx1]
      exact wpAny_pure ⟨rfl, rfl⟩
  · rintro ⟨i, out, st⟩ s' ⟨rfl, hI⟩
    refine ⟨rfl, ?_⟩
    rcases hI with ⟨_, h1, h2⟩ | ⟨_, h1⟩
    · dsimp only at h1 ⊢
      rw [h1]
      have : x.cps = #[] := Array.eq_empty_of_size_eq_zero h2.symm
      simp [octs, this]
    · exact h1
  · refine ⟨rfl, .inl ⟨rfl, rfl, ?_⟩⟩
    simp [PySem.Str.length]
  · obtain ⟨rfl, hb⟩ := hb
    refine wpAny_pure ?_
    rw [hb]; exact h
theorem road_eq {id : String} {self : Value} {x : PySem.Str} : encodeRoad id self x (PySem.Str.ofString "ascii") none = (encodeNarrow id asciiCodec none self x >>= fun b => mkBytes b) := by kernel_rfl
theorem bind_eq {u : Tok} : Builtin.Str.bindOptional "str.encode" "encode" 0 ["encoding", "errors"] [.str (PySem.Str.ofString "ascii") u] [] = pure [some (.str (PySem.Str.ofString "ascii") u), none] := by kernel_rfl
theorem arg_eq {u : Tok} : Builtin.Str.codecArg "str.encode" "encode" "'encoding'" (some (.str (PySem.Str.ofString "ascii") u)) = pure (some (PySem.Str.ofString "ascii")) := by kernel_rfl
theorem meets_encode {x : PySem.Str} {t u : Tok} (hx : ∀ c ∈ x.cps.toList, c < 128) (hz : x.cps.size ≤ sizeLine) :
    Meets («str.encode» ⟨[.str x t, .str (PySem.Str.ofString "ascii") u], []⟩) (fun _ R s => ∀ t' k, R (.ok (.ret (.bytes (octs x).toArray t'))) { s with toks := k }) := by
  refine .of_wp fun prog w A R s h => ?_
  unfold «str.encode»
  refine wpAny_bind (wpAny_of_eq (a := (Value.str x t, x, [Value.str (PySem.Str.ofString "ascii") u])) rfl ?_)
  dsimp only
  refine wpAny_bind (wpAny_of_eq bind_eq ?_)
  dsimp only
  refine wpAny_bind (wpAny_of_eq arg_eq ?_)
  refine wpAny_bind (wpAny_of_eq (a := none) rfl ?_)
  show wpAny _ _ (encodeRoad _ _ _ (PySem.Str.ofString "ascii") none >>= _) _ _ s
  rw [road_eq]
  refine wpAny_bind (wpAny_bind (narrow hx hz ?_))
  refine wpAny_mkBytes (wpAny_pure ⟨_, rfl, h _ _⟩) ?_
  rw [List.size_toArray]
  show (octs x).length ≤ sizeLine
  unfold octs
  rw [List.length_map, Array.length_toList]
  exact hz
section
variable {prog : Program} {w : World} {A : Around} {E : Value → Shared → Prop} {s : Shared} {x : PySem.Str} {t u : Tok}
theorem encode {Q : Value → Shared → Prop} (hx : ∀ c ∈ x.cps.toList, c < 128) (hz : x.cps.size ≤ sizeLine) (h : ∀ t' k, Q (.bytes (octs x).toArray t') { s with toks := k }) :
    wpAny (model prog w) A (call (.builtin "str.encode") [.str x t, .str (PySem.Str.ofString "ascii") u]) Q E s :=
  call_meets PySem.F.slot_str_encode (typeIs_str _ _ _) PySem.F.entry_str_encode (PySem.F.args_str_encode_2 _ _) (meets_encode hx hz) h
theorem meth_encode {M : Model} {pl : Sem Bool} {Q : Value × List Value → Shared → Prop} (h : Q (.builtin "str.encode", [.str x t]) s) : wpAny M A (getMethod (.str x t) "encode" pl) Q E s :=
  getMethod_builtin (typeIs_str _ _ _) PySem.F.plainAttrs_str PySem.F.slot_str_encode PySem.F.type_str_encode (fun _ e => nomatch e) h
end
end BE
end
section
open _root_.PySem _root_.PySem.W _root_.PySem.Spec _root_.PySem.Calls _root_.PyProof.Rows
namespace BS
theorem are_drop {vs : List Value} {l : List (List UInt8)} (h : BZ.BytesAre vs l) (k : Nat) : BZ.BytesAre (vs.drop k) (l.drop k) :=
  ⟨by rw [List.length_drop, List.length_drop, h.1], fun j => by rw [List.getElem?_drop, List.getElem?_drop]; exact h.2 (k + j)⟩
theorem are_take {vs : List Value} {l : List (List UInt8)} (h : BZ.BytesAre vs l) (k : Nat) : BZ.BytesAre (vs.take k) (l.take k) :=
  ⟨by rw [List.length_take, List.length_take, h.1], fun j => by
    by_cases hj : j < k
    · rw [List.getElem?_take_of_lt hj, List.getElem?_take_of_lt hj]; exact h.2 j
    · rw [List.getElem?_take_eq_none (Nat.not_lt.mp hj), List.getElem?_take_eq_none (Nat.not_lt.mp hj)]; exact ⟨0, rfl⟩⟩
section
variable {prog : Program} {w : World} {A : Around} {E : Value → Shared → Prop} {s : Shared} {h₀ : Heap} {L a : Addr} {m : Str → Option Value} {news : List (Addr × Obj)} {value slice : PySem.Expr} {vs : List Value} {l : List (List UInt8)} {vl vu : Value} {k : Int} {Q : Value → Shared → Prop}
theorem size_ok (hv : BZ.BytesAre vs l) (hz : l.length ≤ 100000) : vs.toArray.size ≤ sizeLine := by
  rw [List.size_toArray, hv.1, sizeLine_eq]; exact Nat.le_trans hz (by decide)
theorem slice_from (F : Fr h₀ L s.heap m) (N : News h₀ L s.heap news) (hl : s.heap.IsList a vs.toArray) (hv : BZ.BytesAre vs l) (pl : IsPart vl (some k)) (pu : IsPart vu none) (hk : 0 ≤ k) (hz : l.length ≤ 100000)
    (h : ∀ D ws h', BZ.BytesAre ws (l.drop k.toNat) → Fr h₀ L h' m → News h₀ L h' ((D, listOf ws.toArray 0) :: news) → (∀ p ∈ news, p.1 < D) → Q (.ref D) { s with heap := h' })
    (hs : subscripted slice false (.ref a) (.ref s.heap.objs.size) = operate [.ref s.heap.objs.size, .ref a] (getItem (.ref a) (.ref s.heap.objs.size)) := by with_unfolding_all rfl) (ht : ∀ r, letTemporaryGo value (.ref a) r = pure () := by intro _; with_unfolding_all rfl) :
    wpAny (model prog w) A (subscriptTail value slice (.ref a) (.ref s.heap.objs.size)) Q E { s with heap := s.heap.push { cls := .type "slice", data := .fields #[vl, vu, .none] } } := by
  refine kms_slice_lit F N hl pl pu rfl (fun D h' F' N' l1 => h D _ h' ?_ F' N' l1) hs ht (size_ok hv hz)
  have e0 : kms_lo (some k) vs.length = min k.toNat vs.length := if_neg (Int.not_lt.mpr hk)
  have e : kms_pick vs (some k) none = vs.drop k.toNat := by
    show (vs.drop (kms_lo (some k) vs.length)).take (vs.length - kms_lo (some k) vs.length) = _
    rw [e0, List.take_of_length_le (by rw [List.length_drop]; exact Nat.le_refl _)]
    by_cases q : k.toNat ≤ vs.length
    · rw [Nat.min_eq_left q]
    · rw [Nat.min_eq_right (Nat.le_of_not_le q), List.drop_length, List.drop_of_length_le (Nat.le_of_not_le q)]
  show BZ.BytesAre (kms_pick vs (some k) none) _
  rw [e]; exact are_drop hv _
theorem slice_upto (F : Fr h₀ L s.heap m) (N : News h₀ L s.heap news) (hl : s.heap.IsList a vs.toArray) (hv : BZ.BytesAre vs l) (pl : IsPart vl none) (pu : IsPart vu (some k)) (hk : 0 ≤ k) (hz : l.length ≤ 100000)
    (h : ∀ D ws h', BZ.BytesAre ws (l.take k.toNat) → Fr h₀ L h' m → News h₀ L h' ((D, listOf ws.toArray 0) :: news) → (∀ p ∈ news, p.1 < D) → Q (.ref D) { s with heap := h' })
    (hs : subscripted slice false (.ref a) (.ref s.heap.objs.size) = operate [.ref s.heap.objs.size, .ref a] (getItem (.ref a) (.ref s.heap.objs.size)) := by with_unfolding_all rfl) (ht : ∀ r, letTemporaryGo value (.ref a) r = pure () := by intro _; with_unfolding_all rfl) :
    wpAny (model prog w) A (subscriptTail value slice (.ref a) (.ref s.heap.objs.size)) Q E { s with heap := s.heap.push { cls := .type "slice", data := .fields #[vl, vu, .none] } } := by
  refine kms_slice_lit F N hl pl pu rfl (fun D h' F' N' l1 => h D _ h' ?_ F' N' l1) hs ht (size_ok hv hz)
  have e0 : kms_hi (some k) vs.length = min k.toNat vs.length := if_neg (Int.not_lt.mpr hk)
  show BZ.BytesAre (kms_pick vs none (some k)) _
  have e : kms_pick vs none (some k) = vs.take k.toNat := by
    show (vs.drop 0).take (kms_hi (some k) vs.length - 0) = _
    rw [List.drop_zero, Nat.sub_zero, e0]
    by_cases q : k.toNat ≤ vs.length
    · rw [Nat.min_eq_left q]
    · rw [Nat.min_eq_right (Nat.le_of_not_le q), List.take_length, List.take_of_length_le (Nat.le_of_not_le q)]
  rw [e]; exact are_take hv _
theorem slice_less (F : Fr h₀ L s.heap m) (N : News h₀ L s.heap news) (hl : s.heap.IsList a vs.toArray) (hv : BZ.BytesAre vs l) (pl : IsPart vl none) (pu : IsPart vu (some (-1))) (hz : l.length ≤ 100000)
    (h : ∀ D ws h', BZ.BytesAre ws (l.take (l.length - 1)) → Fr h₀ L h' m → News h₀ L h' ((D, listOf ws.toArray 0) :: news) → (∀ p ∈ news, p.1 < D) → Q (.ref D) { s with heap := h' })
    (hs : subscripted slice false (.ref a) (.ref s.heap.objs.size) = operate [.ref s.heap.objs.size, .ref a] (getItem (.ref a) (.ref s.heap.objs.size)) := by with_unfolding_all rfl) (ht : ∀ r, letTemporaryGo value (.ref a) r = pure () := by intro _; with_unfolding_all rfl) :
    wpAny (model prog w) A (subscriptTail value slice (.ref a) (.ref s.heap.objs.size)) Q E { s with heap := s.heap.push { cls := .type "slice", data := .fields #[vl, vu, .none] } } := by
  refine kms_slice_lit F N hl pl pu rfl (fun D h' F' N' l1 => h D _ h' ?_ F' N' l1) hs ht (size_ok hv hz)
  show BZ.BytesAre ((vs.drop 0).take (vs.length - 1 - 0)) _
  rw [List.drop_zero, Nat.sub_zero, hv.1]; exact are_take hv _
theorem item_last {u : Tok} (hl : s.heap.IsList a vs.toArray) (hv : BZ.BytesAre vs l) (h1 : 1 ≤ l.length) (hz : l.length ≤ 100000)
    (h : ∀ t, Q (.bytes (l.getD (l.length - 1) []).toArray t) s)
    (hs : subscripted slice false (.ref a) (.int (-1) u) = operate [.ref a, .int (-1) u] (getItem (.ref a) (.int (-1) u)) := by with_unfolding_all rfl) :
    wpAny (model prog w) A (subscriptTail value slice (.ref a) (.int (-1) u)) Q E s := by
  obtain ⟨t, e⟩ := hv.2 (l.length - 1)
  have hs2 : vs.toArray.size = l.length := by rw [List.size_toArray, hv.1]
  refine tail_any hl.typeIs slot_list_getitem.lookup (wpAny_getItem_list_neg hl (by decide) (by rw [hs2]; lia) (by decide) (x := .bytes (l.getD (l.length - 1) []).toArray t) ?_ (h t)) hs
  rw [hs2, Int.add_comm, show ((l.length : Int) + (-1)).toNat = l.length - 1 from Int.toNat_sub _ 1]
  have hlt : l.length - 1 < l.length := Nat.sub_lt h1 (by decide)
  rw [List.getElem?_eq_getElem (l := l) hlt] at e
  rw [List.getD_eq_getElem?_getD, List.getElem?_eq_getElem hlt]
  simpa using e
end
section
variable {prog : Program} {w : World} {A : Around} {E : Value → Shared → Prop} {s : Shared} {a : Addr} {vs : List Value} {l : List (List UInt8)} {Q : Value → Shared → Prop}
theorem len_B (hl : s.heap.IsList a vs.toArray) (hv : BZ.BytesAre vs l) (hz : l.length ≤ 100000) (h : ∀ t k, Q (.int (l.length : Int) t) { s with toks := k }) : wpAny (model prog w) A (call (.builtin "len") [.ref a]) Q E s := by
  have e : vs.toArray.size = l.length := by rw [List.size_toArray, hv.1]
  refine call_len_list hl (by rw [e]; omega) ?_
  rw [e]
  exact h _ _
end
noncomputable def DsPost (h₀ : Heap) (L : Addr) (x : Str) (stored : List Str) (m₀ : Str → Option Value) (led : Led) (P : Prop) (s : Shared) (Q : Flow → Shared → Prop) (f : Flow) (s₂ : Shared) : Prop := match f with
  | .ret v => Q (.ret v) s₂
  | .brk => False
  | _ => ∃ h' tk m' news', s₂ = { s with heap := h', toks := tk } ∧ Fr h₀ L h' m' ∧ News h₀ L h' news' ∧ (∀ p ∈ led, p ∈ news') ∧ (∀ z, z ≠ x → stored.contains z = false → m' z = m₀ z) ∧ P
section
variable {prog : Program} {w : World} {A : Around} {E : Value → Shared → Prop} {s : Shared} {env : Env} {h₀ : Heap} {x : Str} {body : List Stmt} {Q : Flow → Shared → Prop}
theorem down_search {r : Addr} {a₀ b₀ : Int} {t₀ u₀ v₀ : Tok} {n : Nat} {m₀ : Str → Option Value} {news : Led} (stored : List Str) (P : Nat → Prop)
    (hh : A.handled = none) (hr : IsRange s.heap r a₀ b₀ (-1) t₀ u₀ v₀) (hsmall : Builtin.Range.small a₀ b₀ (-1) = true) (hn : Builtin.Range.rangeSize a₀ b₀ (-1) = (n : Int)) (F : Fr h₀ env.locals s.heap m₀) (N : News h₀ env.locals s.heap news) (hp : P 0)
    (turn : ∀ (i : Nat) (k : Int) t (u : Str → Option Value) h tk own, k = a₀ - (i : Int) → i < n → P i →
      Fr h₀ env.locals h (fun y => if y = x then some (.int k t) else if stored.contains y then u y else m₀ y) → News h₀ env.locals h (news ++ own) →
      wpAny (model prog w) A (execs body env) (DsPost h₀ env.locals x stored m₀ (news ++ own) (P (i + 1)) { s with heap := h, toks := tk } Q) E { s with heap := h, toks := tk })
    (done : ∀ (u : Str → Option Value) h tk, P n → Fr h₀ env.locals h (fun y => if y = x then u y else if stored.contains y then u y else m₀ y) → News h₀ env.locals h news → Q .next { s with heap := h, toks := tk }) :
    wpAny (model prog w) A (pyIter (.ref r)) (fun it s₂ => LoopAtV prog w A h₀ env x body Q E it s₂) E s := by
  refine kst_rangeD (σ := Unit) (fun _ => news) (fun _ => []) (fun _ => True) stored (fun pre _ => P pre.length) () hh hr hsmall hn F N trivial (fun _ h => nomatch h) hp ?_ ?_
  · intro c pre k t u h tk own hk hl _ _ hP F₁ N₁
    refine wpAny_mono (turn pre.length k t u h tk own hk hl hP F₁ N₁) (fun f s₂ q => ?_) fun _ _ e => e
    have fin : (∃ h' tk' m' news', s₂ = { s with heap := h', toks := tk' } ∧ Fr h₀ env.locals h' m' ∧ News h₀ env.locals h' news' ∧ (∀ p ∈ news ++ own, p ∈ news') ∧ (∀ z, z ≠ x → stored.contains z = false → m' z = m₀ z) ∧ P (pre.length + 1)) →
        InvEndN h₀ env.locals (KstS (fun _ => news) (fun _ => []) (fun _ => True) x stored m₀ (fun pre (_ : Unit) => P pre.length) (pre ++ [k])) own (news.map (·.1)) { s with heap := h, toks := tk } s₂ := by
      rintro ⟨h', tk', m', news', rfl, F', N', hs, hm, hp'⟩
      exact kst_end () F' N' (fun p h => hs p (List.mem_append_left _ h)) (fun p h => hs p (List.mem_append_right _ h)) rfl trivial (fun _ h => nomatch h) (fun z h1 _ h3 => hm z h1 h3) (by simpa using hp')
    cases f with
    | ret v => exact q
    | brk => exact q.elim
    | next => exact fin q
    | cont => exact fin q
  · intro c u h tk _ hP F₁ N₁
    exact done u h tk (by simpa [downKs_length] using hP) F₁ N₁
end
end BS
namespace PL
theorem join_cons_head (sep : List UInt8) (c : UInt8) (x : List UInt8) (r : List (List UInt8)) : joinC sep ((c :: x) :: r) = c :: joinC sep (x :: r) := by
  cases r <;> rfl
theorem join_split (d : UInt8) : ∀ x : List UInt8, joinC [d] (splitC d x) = x
  | [] => rfl
  | c :: l => by
    rw [splitC_cons]
    have ih := join_split d l
    have hne := splitC_ne d l
    cases hs : splitC d l with
    | nil => exact absurd hs hne
    | cons q R =>
      rw [hs] at ih
      split
      · rename_i h
        rw [joinC_cons, ih, h]; rfl
      · show joinC [d] ((c :: q) :: R) = c :: l
        rw [join_cons_head, ih]
theorem join_drop_le (sep : List UInt8) : ∀ (k : Nat) (ps : List (List UInt8)), (joinC sep (ps.drop k)).length ≤ (joinC sep ps).length
  | 0, ps => by simp
  | k + 1, [] => by simp
  | k + 1, [x] => by simp [joinC]
  | k + 1, x :: y :: r => by
    rw [List.drop_succ_cons, joinC_cons, List.length_append]
    exact Nat.le_trans (join_drop_le sep k (y :: r)) (Nat.le_add_left _ _)
theorem join_take_le (sep : List UInt8) : ∀ (k : Nat) (ps : List (List UInt8)), (joinC sep (ps.take k)).length ≤ (joinC sep ps).length
  | 0, ps => by simp [joinC]
  | k + 1, [] => by simp
  | k + 1, [x] => by simp
  | 1, x :: y :: r => by
    show x.length ≤ (x ++ sep ++ joinC sep (y :: r)).length
    simp only [List.length_append]
    lia
  | k + 2, x :: y :: r => by
    have := join_take_le sep (k + 1) (y :: r)
    rw [List.take_succ_cons] at this
    rw [List.take_succ_cons, List.take_succ_cons, joinC_cons, joinC_cons]
    simp only [List.length_append]
    lia
theorem split_len (d : UInt8) : ∀ x : List UInt8, (splitC d x).length ≤ x.length + 1
  | [] => by simp [splitC]
  | c :: l => by
    have := split_len d l
    rw [splitC_cons]
    split
    · simp; omega
    · simp; omega
theorem split_pos (d : UInt8) (x : List UInt8) : 1 ≤ (splitC d x).length := by
  have := splitC_ne d x
  cases h : splitC d x with
  | nil => exact absurd h this
  | cons a b => simp
theorem split_head (d e : UInt8) (hde : e ≠ d) (x : List UInt8) : ((splitC d x).headD []).take 1 = [e] ↔ x.head? = some e := by
  cases x with
  | nil => simp [splitC]
  | cons c l =>
    rw [splitC_cons]
    split
    · rename_i h
      simp only [List.headD_cons, List.take_nil, List.head?_cons]
      constructor
      · intro q; cases q
      · intro q; cases q; exact absurd h hde
    · simp
noncomputable def markP : List (List UInt8) → Option (List UInt8 × List UInt8)
  | [] => none
  | [_] => none
  | p :: q :: R => match markP (q :: R) with
    | some z => some (p ++ 62 :: z.1, z.2)
    | none => if q.take 1 = [32] then some (p, (joinC [62] (q :: R)).drop 1) else none
theorem markP_cons (p q : List UInt8) (R : List (List UInt8)) : markP (p :: q :: R) = match markP (q :: R) with
    | some z => some (p ++ 62 :: z.1, z.2)
    | none => if q.take 1 = [32] then some (p, (joinC [62] (q :: R)).drop 1) else none := rfl
theorem mark_split : ∀ x : List UInt8, lastMark x = markP (splitC 62 x)
  | [] => rfl
  | c :: l => by
    rw [lastMark_cons, mark_split l, splitC_cons]
    have hne := splitC_ne 62 l
    have hj := join_split 62 l
    have hh := split_head 62 32 (by decide) l
    cases hs : splitC 62 l with
    | nil => exact absurd hs hne
    | cons q R =>
      rw [hs] at hj hh
      by_cases h : c = 62
      · have e : (if c = 62 then [] :: q :: R else (c :: (q :: R).headD []) :: (q :: R).tail) = [] :: q :: R := if_pos h
        rw [e, markP_cons]
        cases hm : markP (q :: R) with
        | some z => subst h; rfl
        | none =>
          dsimp only
          have : (c = 62 ∧ l.head? = some 32) ↔ q.take 1 = [32] := by rw [← hh]; simp [h]
          by_cases hq : q.take 1 = [32]
          · rw [if_pos (this.mpr hq), if_pos hq, hj, List.drop_one]
          · rw [if_neg (fun z => hq (this.mp z)), if_neg hq]
      · have e : (if c = 62 then [] :: q :: R else (c :: (q :: R).headD []) :: (q :: R).tail) = (c :: q) :: R := if_neg h
        rw [e]
        have h3 : ¬ (c = 62 ∧ l.head? = some 32) := fun z => h z.1
        cases R with
        | nil =>
          show (if c = 62 ∧ l.head? = some 32 then some ([], l.tail) else none) = none
          rw [if_neg h3]
        | cons q2 R2 =>
          rw [markP_cons, markP_cons]
          cases markP (q2 :: R2) with
          | some z => rfl
          | none =>
            dsimp only
            by_cases hq : q2.take 1 = [32]
            · rw [if_pos hq, if_pos hq]
            · rw [if_neg hq, if_neg hq]
              dsimp only
              rw [if_neg h3]
theorem mark_none : ∀ ps : List (List UInt8), (∀ j, 1 ≤ j → j < ps.length → (ps.getD j []).take 1 ≠ [32]) → markP ps = none
  | [], _ => rfl
  | [_], _ => rfl
  | p :: q :: R, h => by
    rw [markP_cons, mark_none (q :: R) fun j h1 h2 => h (j + 1) (Nat.le_add_left 1 j) (Nat.succ_lt_succ h2)]
    dsimp only
    rw [if_neg]
    exact h 1 (Nat.le_refl 1) (Nat.succ_lt_succ (Nat.succ_pos _))
theorem mark_found : ∀ (k : Nat) (ps : List (List UInt8)), k + 1 < ps.length → (ps.getD (k + 1) []).take 1 = [32] → (∀ j, k + 1 < j → j < ps.length → (ps.getD j []).take 1 ≠ [32]) →
    markP ps = some (joinC [62] (ps.take (k + 1)), (joinC [62] (ps.drop (k + 1))).drop 1)
  | _, [], h, _, _ => by simp at h
  | _, [_], h, _, _ => by simp at h
  | 0, p :: q :: R, _, h1, h2 => by
    rw [markP_cons, mark_none (q :: R) fun j h3 h4 => h2 (j + 1) (Nat.succ_lt_succ h3) (Nat.succ_lt_succ h4)]
    dsimp only
    rw [if_pos (show q.take 1 = [32] from h1)]; rfl
  | k + 1, p :: q :: R, h, h1, h2 => by
    rw [markP_cons, mark_found k (q :: R) (Nat.lt_of_succ_lt_succ h) h1 fun j h3 h4 => h2 (j + 1) (Nat.succ_lt_succ h3) (Nat.succ_lt_succ h4)]
    show some (p ++ 62 :: joinC [62] (q :: R.take k), (joinC [62] (R.drop k)).drop 1) = some (p ++ [62] ++ joinC [62] (q :: R.take k), (joinC [62] (R.drop k)).drop 1)
    simp
theorem sp_split (d : UInt8) : ∀ x : List UInt8, lastSp d x = if (splitC d x).length = 1 then none else some (joinC [d] ((splitC d x).take ((splitC d x).length - 1)), (splitC d x).getD ((splitC d x).length - 1) [])
  | [] => rfl
  | c :: l => by
    rw [lastSp_cons, sp_split d l, splitC_cons]
    have hj := join_split d l
    have hne := splitC_ne d l
    cases hs : splitC d l with
    | nil => exact absurd hs hne
    | cons q R =>
      rw [hs] at hj
      cases R with
      | nil =>
        have hj : q = l := hj
        subst hj
        by_cases h : c = d <;> simp [h, joinC]
      | cons q2 R2 =>
        rw [if_neg (by simp)]
        by_cases h : c = d
        · have e : (if c = d then [] :: q :: q2 :: R2 else (c :: (q :: q2 :: R2).headD []) :: (q :: q2 :: R2).tail) = [] :: q :: q2 :: R2 := if_pos h
          rw [e, if_neg (show ¬ (([] : List UInt8) :: q :: q2 :: R2).length = 1 by simp)]
          show some (c :: joinC [d] (q :: (q2 :: R2).take R2.length), (q :: q2 :: R2).getD (R2.length + 1) []) = some (joinC [d] ([] :: q :: (q2 :: R2).take R2.length), ([] :: q :: q2 :: R2).getD (R2.length + 1 + 1) [])
          rw [joinC_cons, h]; rfl
        · have e : (if c = d then [] :: q :: q2 :: R2 else (c :: (q :: q2 :: R2).headD []) :: (q :: q2 :: R2).tail) = (c :: q) :: q2 :: R2 := if_neg h
          rw [e, if_neg (show ¬ ((c :: q) :: q2 :: R2).length = 1 by simp)]
          show some (c :: joinC [d] (q :: (q2 :: R2).take R2.length), (q :: q2 :: R2).getD (R2.length + 1) []) = some (joinC [d] ((c :: q) :: (q2 :: R2).take R2.length), ((c :: q) :: q2 :: R2).getD (R2.length + 1) [])
          rw [join_cons_head]; rfl
end PL
end
section
open _root_.PySem _root_.PySem.W _root_.PySem.Spec _root_.PySem.Calls _root_.PyProof.Rows
section
variable {prog : Program} {w : World} {A : Around} {R : Result → Shared → Prop} {env : Env}
end
theorem wpB_ofK {α : Type} {M : Model} {t : Sem α} {Q : α → Shared → Prop} {E : Value → Shared → Prop} {s : Shared} (h : wpK M callerA t Q E s) : wpB M t Q E s := fun p => h baseG p caller_in (by rfl)
end
section
open _root_.PySem _root_.PySem.W _root_.PySem.Spec _root_.PySem.Calls _root_.PyProof.Rows
section
variable {prog : Program} {w : World} {A : Around} {R : Result → Shared → Prop} {env : Env} {h₀ : Heap} {L : Addr} {s : Shared}
theorem go_tuple {elts : List Expr} {x1} {pos : Pos} {I l : Addr} {v : Value} {i : Nat} {E : Value → Shared → Prop} {Q : Unit → Shared → Prop} (hit : s.heap.IsTupleIter I l i) (hQ : Q () s) :
    wpAny (model prog w) A (letOwnedTupleGo (.Tuple elts x1 pos) (.ref I) v) Q E s := by
  obtain ⟨o, ho, hc, hd⟩ := hit
  unfold letOwnedTupleGo
  cases v with
  | ref T =>
    refine wpAny_bind (wpAny_load ho ?_)
    rw [hc, hd]
    show wpAny _ A (if (["enumerate", "zip", "dict_itemiterator", "dict_reverseitemiterator", "odict_iterator", "itertools.zip_longest", "itertools.pairwise"].contains "tuple_iterator" &&
        (#[.ref l, .int i 0] : Array Value)[0]? == some (rawInt T)) = true then _ else _) Q E s
    rw [if_neg (by
      intro h
      rw [show (["enumerate", "zip", "dict_itemiterator", "dict_reverseitemiterator", "odict_iterator", "itertools.zip_longest", "itertools.pairwise"].contains "tuple_iterator") = false from by decide, Bool.false_and] at h
      cases h)]
    exact wpAny_pure hQ
  | _ => exact wpAny_pure hQ
theorem codeK_forLoop2 {target : Expr} {it : Value} {body orelse : List Stmt} (I : Nat → Shared → Prop)
    (turn : ∀ n s, I n s → wpAny (model prog w) A (pyNext it) (fun r s₁ => match r with
      | none => wpAny (model prog w) A (execs orelse env) (fun f s₃ => R (.ok f) s₃) (notedBy (model prog w) A env fun e s' => R (.error e) s') s₁
      | some v => wpAny (model prog w) A (letOwnedTupleGo target it v) (fun _ s₁' => wpAny (model prog w) A (assign target env v) (fun _ s₂ => wpK (model prog w) A (execs body env) (fun f s₃ => match f with
          | .next | .cont => ∃ m, m < n ∧ I m s₃
          | .brk => R (.ok .next) s₃
          | .ret v => R (.ok (.ret v)) s₃) (notedBy (model prog w) A env fun e s' => R (.error e) s') s₂) (notedBy (model prog w) A env fun e s' => R (.error e) s') s₁') (notedBy (model prog w) A env fun e s' => R (.error e) s') s₁) (notedBy (model prog w) A env fun e s' => R (.error e) s') s) : ∀ (n : Nat) (s : Shared), I n s → codeK (model prog w) A (.forLoop target it body orelse env) R s := by
  intro n
  induction n using Nat.strongRecOn with
  | _ n ih =>
  intro s hI
  refine codeK_of_tree ?_
  show wpK _ A ((forTurn target it body orelse env).onRaise (fun x => do noteFrame x env; theTreesLotGoes x)) _ _ s
  refine wpK_onRaise ?_
  have key : wpK (model prog w) A (forTurn target it body orelse env) (fun fin s' => match fin with | .done f => R (.ok f) s' | .again c' => c'.quiet = true ∧ codeK (model prog w) A c' R s') (notedBy (model prog w) A env fun e s' => R (.error e) s') s := by
    simp -iota only [forTurn]
    refine wpK_bind (wpK_standAt (wpK_bind (wpK_mono (wpK_of (wpAny_onRaise (wpAny_mono (turn n s hI) (fun _ _ h => h) fun _ _ h' => wpAny_standAt h'))) (fun r s₁ h₁ => ?_) fun _ _ h => h)))
    cases r with
    | none => exact wpK_pure ⟨rfl, codeK_of (codeAny_block h₁)⟩
    | some v =>
      refine wpK_bindA (wpAny_mono h₁ (fun _ s₁' h₁' => ?_) fun _ _ h' => h')
      refine wpK_bindA (wpAny_mono h₁' (fun _ s₂ h₂ => wpK_bind (wpK_mono h₂ (fun f s₃ h₃ => ?_) fun _ _ h' => h')) fun _ _ h' => h')
      cases f with
      | next => obtain ⟨m, hm, hI'⟩ := h₃; exact wpK_pure ⟨rfl, ih m hm _ hI'⟩
      | cont => obtain ⟨m, hm, hI'⟩ := h₃; exact wpK_pure ⟨rfl, ih m hm _ hI'⟩
      | brk => exact wpK_pure h₃
      | ret v => exact wpK_pure h₃
  refine wpK_mono key (fun _ _ h => h) fun e s' he => ?_
  exact wpAny_bind (wpAny_mono he (fun _ _ z => wpAny_theTreesLotGoes z) fun _ _ z => z)
noncomputable def TurnPost (h₀ : Heap) (L : Addr) (s : Shared) (R : Result → Shared → Prop) (own : Led) (J : (Str → Option Value) → Led → Prop) (f : Flow) (s₃ : Shared) : Prop := match f with
  | .next | .cont => ∃ h' tk' m' nx', s₃ = { s with heap := h', toks := tk' } ∧ Fr h₀ L h' m' ∧ News h₀ L h' (own ++ nx') ∧ J m' nx'
  | .brk => R (.ok .next) s₃
  | .ret v => R (.ok (.ret v)) s₃
theorem codeK_seq {target : Expr} {body : List Stmt} {It ax : Addr} {n : Nat} {P : Nat → Value → Prop} {St : Nat → Heap → Prop} (J : Nat → (Str → Option Value) → Led → Prop)
    (W : Walks prog w A It [It, ax] [It] n P St)
    (hIt : ∀ i h, St i h → ∃ o, h.get? It = some o) (hax : ∀ i h, St i h → ∃ o, h.get? ax = some o)
    (nIt : h₀.get? It = none) (nax : h₀.get? ax = none) (LIt : It ≠ L) (Lax : ax ≠ L)
    (apart : ∀ i h m nx, St i h → J i m nx → News h₀ L h nx → ∀ p ∈ nx, p.1 ≠ It)
    (turn : ∀ i v m nx h tk own, i < n → P i v → J i m nx → Fr h₀ L h m → News h₀ L h (own ++ nx) →
      wpAny (model prog w) A (assign target env v) (fun _ s₂ => wpK (model prog w) A (execs body env) (TurnPost h₀ L s R own (J (i + 1))) (fun _ _ => False) s₂) (fun _ _ => False) { s with heap := h, toks := tk })
    (done : ∀ m nx h tk, J n m nx → Fr h₀ L h m → News h₀ L h nx → R (.ok .next) { s with heap := h, toks := tk })
    {m₀ : Str → Option Value} {nx₀ : Led} (F : Fr h₀ L s.heap m₀) (N : News h₀ L s.heap nx₀) (hs : St 0 s.heap) (hj : J 0 m₀ nx₀)
    (hgo : ∀ i v (s : Shared) (Q : Unit → Shared → Prop) (E : Value → Shared → Prop), St i s.heap → Q () s → wpAny (model prog w) A (letOwnedTupleGo target (.ref It) v) Q E s) :
    codeK (model prog w) A (.forLoop target (.ref It) body [] env) R s := by
  refine codeK_forLoop2 (fun k s' => ∃ i h tk m nx, k = n - i ∧ i ≤ n ∧ s' = { s with heap := h, toks := tk } ∧ Fr h₀ L h m ∧ News h₀ L h nx ∧ St i h ∧ J i m nx) ?_ n s ⟨0, s.heap, s.toks, m₀, nx₀, rfl, Nat.zero_le _, rfl, F, N, hs, hj⟩
  rintro k s' ⟨i, h, tk, m, nx, rfl, hi, rfl, F₁, N₁, hst, hJ⟩
  by_cases hlt : i < n
  · refine W.item i _ _ _ hlt hst ?_
    intro v h' tk' hP hst' hk
    dsimp only
    have F₂ : Fr h₀ L h' m := ⟨F₁.ns.at' fun o e => hk L o (by simp [LIt.symm]) e, fun b o e => hk b o (by simp; intro q; subst q; rw [nIt] at e; cases e) (F₁.keep b o e), F₁.above⟩
    have N₂ : News h₀ L h' nx := fun p hp => ⟨hk _ _ (by simp; exact apart _ _ _ _ hst hJ N₁ p hp) (N₁ p hp).1, (N₁ p hp).2⟩
    obtain ⟨oI, hoI⟩ := hIt _ _ hst'
    obtain ⟨oa, hoa⟩ := hax _ _ hst'
    have N₃ : News h₀ L h' ([(It, oI), (ax, oa)] ++ nx) := fun p hp => by
      rcases List.mem_append.mp hp with hp | hp
      · simp at hp
        rcases hp with rfl | rfl
        · exact ⟨hoI, LIt, nIt⟩
        · exact ⟨hoa, Lax, nax⟩
      · exact N₂ p hp
    refine hgo (i + 1) v _ _ _ hst' ?_
    refine wpAny_mono (turn i v m nx h' tk' [(It, oI), (ax, oa)] hlt hP hJ F₂ N₃) (fun _ s₂ h₂ => ?_) (fun _ _ h => h.elim)
    refine wpK_mono h₂ (fun f s₃ q => ?_) (fun _ _ h => h.elim)
    have fin : (∃ h' tk' m' nx', s₃ = { s with heap := h', toks := tk' } ∧ Fr h₀ L h' m' ∧ News h₀ L h' ([(It, oI), (ax, oa)] ++ nx') ∧ J (i + 1) m' nx') →
        ∃ m_1, m_1 < n - i ∧ ∃ i h tk m nx, m_1 = n - i ∧ i ≤ n ∧ s₃ = { s with heap := h, toks := tk } ∧ Fr h₀ L h m ∧ News h₀ L h nx ∧ St i h ∧ J i m nx := by
      rintro ⟨h3, tk3, m3, nx3, rfl, F3, N3, hJ3⟩
      refine ⟨n - (i + 1), by (first | lia | omega), i + 1, h3, tk3, m3, nx3, rfl, hlt, rfl, F3, fun p hp => N3 p (List.mem_append_right _ hp), ?_, hJ3⟩
      refine W.frame _ _ _ hst' fun b hb o ho => ?_
      simp at hb
      rcases hb with rfl | rfl
      · rw [hoI] at ho; cases ho; exact (N3 _ (List.mem_append_left _ (.head _))).1
      · rw [hoa] at ho; cases ho; exact (N3 _ (List.mem_append_left _ (.tail _ (.head _)))).1
    cases f with
    | next => exact fin q
    | cont => exact fin q
    | brk => exact q
    | ret v => exact q
  · have hin : i = n := by (first | lia | omega)
    subst hin
    refine W.done _ _ _ hst ?_
    intro h' tk' hk
    dsimp only
    have F₂ : Fr h₀ L h' m := ⟨F₁.ns.at' fun o e => hk L o (by simp [LIt.symm]) e, fun b o e => hk b o (by simp; intro q; subst q; rw [nIt] at e; cases e) (F₁.keep b o e), F₁.above⟩
    have N₂ : News h₀ L h' nx := fun p hp => ⟨hk _ _ (by simp; exact apart _ _ _ _ hst hJ N₁ p hp) (N₁ p hp).1, (N₁ p hp).2⟩
    exact wpAny_execs_nil (done m nx h' tk' hJ F₂ N₂)
end
end
section
open _root_.PySem _root_.PySem.W _root_.PySem.Spec _root_.PySem.Calls _root_.PyProof.Rows
section
variable {M : Model} {A : Around} {E : Value → Shared → Prop} {s : Shared} {env : Env}
theorem wpK_isTrue_not {x : Expr} {pos : Pos} {whole : Sem Value} {Q : Bool → Shared → Prop} (h : wpK M A (isTrue x env (eval x env)) (fun c s' => Q (!c) s') E s) :
    wpK M A (isTrue (.UnaryOp .Not x pos) env whole) Q E s := by
  show wpK M A (do return !(← isTrue x env (eval x env))) Q E s
  exact wpK_bind (wpK_mono h (fun c s' h' => wpK_pure h') fun _ _ x => x)
theorem wpK_isTrue_plain {e : Expr} {whole : Sem Value} {Q : Bool → Shared → Prop} (h : wpK M A whole (fun v s₁ => wpAny M A (truthy v) Q E s₁) E s)
    (he : isTrue e env whole = (do let v ← whole; standAt e.pos; holding [v] (truthy v)) := by rfl) : wpK M A (isTrue e env whole) Q E s := by
  rw [he]
  exact wpK_bind (wpK_mono h (fun v s₁ h₁ => wpK_bind (wpK_standAt (wpK_holding (wpK_of h₁)))) fun _ _ x => x)
theorem wpK_Return {e : Expr} {pos : Pos} {Q : Flow → Shared → Prop} (h : wpK M A (eval e env) (fun v s' => Q (.ret v) s') E s) : wpK M A (exec (.Return (some e) pos) env) Q E s := by
  rw [arm_exec_Return]
  refine wpK_bind (wpK_standAt ?_)
  show wpK M A (do return .ret (← eval e env)) Q E s
  exact wpK_bind (wpK_mono h (fun v s' h' => wpK_pure h') fun _ _ x => x)
theorem wpK_Compare1 {l : Expr} {op : CmpOp} {r : Expr} {pos : Pos} {Q : Value → Shared → Prop}
    (h : wpK M A (eval l env) (fun a s₁ => wpK M A (eval r env) (fun b s₂ => wpAny M A (compareOp op a b) Q E s₂) E s₁) E s)
    (hm : behindInMarks op r = false := by with_unfolding_all rfl) : wpK M A (eval (.Compare l [op] [r] pos) env) Q E s := fun Γ p hΓ hC => by
  simp only [eval_Compare1, markedBehindIn_of_false hm, Sem.wp_bind', Sem.wp_holding, Sem.wp_cmd_standAt, Sem.wp_operate]
  exact Sem.wp_mono M Γ _ (fun a p₁ s₁ h₁ => Sem.wp_mono M Γ _ (fun b _ s₂ h₂ => h₂ Γ _ hΓ) (fun _ _ _ h' => h') _ _ (h₁ Γ p₁ hΓ hC))
    (fun _ _ _ h' => h') _ _ (h Γ p hΓ hC)
end
end
section
open _root_.PySem
namespace PF
noncomputable abbrev Bs := List UInt8
noncomputable def people : List Bs := [[65, 32, 60, 97, 64, 98, 62], [120, 62, 32, 121, 32, 60, 122, 62], [62], [113, 62, 32, 53], [195, 169, 32, 60, 49, 32, 43, 48, 49, 48, 48, 62], [110, 111, 32, 109, 97, 114, 107], [62, 62, 32, 55, 32, 45, 48, 48, 48, 48, 62], [60, 97, 62, 98], [], [66, 32, 60, 98, 62, 10, 32, 60, 99, 62], [67, 32, 60, 99, 62, 32, 57, 32, 45, 48, 49, 51, 48], [68, 32, 60, 100, 62, 32, 62]]
noncomputable def signs : List Bs := [[43], [45], [45, 45], [45, 43], [43, 45], [43, 43], [], [45, 45, 45]]
noncomputable def written : List Bs := [[48, 48, 48, 48], [48, 49, 48, 48], [48, 53, 51, 48], [55, 48, 48], [49, 50, 52, 53], [48, 48, 54, 48], [48, 49, 57, 57], [57, 50, 50, 51, 51, 55, 50, 48, 51, 54, 56, 53, 52, 55, 55, 53, 56, 48, 55], [53], [], [48, 48, 48, 48, 51, 48], [57, 50, 50, 51, 51, 55, 50, 48, 51, 54, 56, 53, 52, 55, 55, 53, 56, 48, 56]]
noncomputable def sizes : List Int := [4, 4, 3, 4, 5, 2, 6, 1, 8, 4, 12, 20]
noncomputable def odd : Bs := [47, 58, 46, 44, 120, 88, 97, 101, 76, 60, 62, 43, 45, 32, 0, 127, 128, 178, 185, 255]
noncomputable def plainF (x : Int) : Bool := decide (x ≤ 0) || decide (x.fmod 60 ≠ 0) || (decide (3600 ≤ x) && decide (x.fmod 1800 = 0))
noncomputable def wholeGo : Int → Bs → Option Int
  | n, [] => some n
  | n, c :: l => if c.toNat < 48 ∨ 57 < c.toNat then none else wholeGo (n * 10 + (c.toNat : Int) - 48) l
noncomputable def wholeF (x : Bs) : Option Int :=
  let minus := decide (x.take 1 = [45])
  let y := if minus || decide (x.take 1 = [43]) then x.drop 1 else x
  if y = [] then none else (wholeGo 0 y).map fun n => if minus then -n else n
end PF
end
section
open _root_.PySem _root_.PySem.W _root_.PySem.Spec _root_.PySem.Calls _root_.PyProof.Rows
section
open _root_.PySem _root_.PySem.W _root_.PySem.Spec _root_.PySem.Calls _root_.PyProof.Rows
theorem told_G1 : True := by
  w_top off
  k_with "storeName" => ((k_here; k_dflt (first | ((with_reducible show wpAny _ _ (storeName _ _ (Value.int _ _)) _ _ _); refine storeG_int (by k_asm) (by k_asm) ?_ (by rfl) (by rfl); intro hq9 tq9 kq9 Fq9 Nq9) | ((with_reducible show wpAny _ _ (storeName _ _ (Value.bytes _ _)) _ _ _); refine storeG_bytes (by k_asm) (by k_asm) ?_ (by rfl) (by rfl); intro hq9 tq9 kq9 Fq9 Nq9) | (refine storeG_any (by k_asm) (by k_asm) ?_ (by rfl) (by rfl); intro hq9 kq9 Fq9 Nq9)); (try k_sweep)))
  k_with "Go" => (refine go_on (by assumption) ?_)
  k_with "own kby_size" => ((first | assumption | omega | (simp only [List.length_append, List.length_cons, List.length_nil] at *; omega)))
  k_with "subscriptTail" => ((k_here; (with_reducible show wpAny _ _ (subscriptTail _ (Expr.Slice _ _ none _) (Value.bytes (List.toArray _) _) (Value.ref _)) _ _ _); (with_reducible rename Fr _ _ _ _ => Fq9); (with_reducible rename News _ _ _ _ => Nq9); (refine BY.slice_L (s := ⟨_, _, _, _, _⟩) Fq9 Nq9 (by constructor) (by constructor) (by kby_size) ?_); intro _ _ _ Fq9 Nq9 hlenq9))
  k_with "binaryOp Add bytes bytes" => ((k_here; (with_reducible show wpAny _ _ (binaryOp Operator.Add (Value.bytes (List.toArray _) _) (Value.bytes (List.toArray _) _)) _ _ _); (refine BY.add_L (by kby_size) ?_); intro _ _))
  k_with "compareOp Eq bytes bytes" => ((k_here; (with_reducible show wpAny _ _ (compareOp CmpOp.Eq (Value.bytes (List.toArray _) _) (Value.bytes (List.toArray _) _)) _ _ _); (refine BY.eq_L ?_)))
  k_with "compareOp NotEq bytes bytes" => ((k_here; (with_reducible show wpAny _ _ (compareOp CmpOp.NotEq (Value.bytes (List.toArray _) _) (Value.bytes (List.toArray _) _)) _ _ _); (refine BY.ne_L ?_)))
  k_with "subscriptTail" => ((k_here; (with_reducible show wpAny _ _ (subscriptTail _ _ (Value.bytes (List.toArray _) _) (Value.int _ _)) _ _ _); (refine BY.item_L (by kby_size) (by first | decide | omega) (by first | omega | (simp only [List.length_append, List.length_cons, List.length_nil] at *; omega)) ?_); intro _ _))
  k_with "compareOp NotIn int bytes" => ((k_here; (with_reducible show wpAny _ _ (compareOp CmpOp.NotIn (Value.int _ _) (Value.bytes (List.toArray _) _)) _ _ _); (refine BY.notIn_B ?_)))
  k_with "call type:int" => ((k_here; (with_reducible show wpAny _ _ (call (Value.type "int") [Value.bytes (List.toArray _) _]) _ _ _); (refine IR.call_int_bytes (by assumption) (by assumption) ?_)))
  trivial
noncomputable def pzF (x : List UInt8) (n : Int) : Int × Bool :=
  let o := if x.take 1 = [45] then -n else n
  let sg : Int := if o < 0 then -1 else 1
  let a : Int := if o < 0 then -o else o
  (sg * (a.fdiv 100 * 3600 + a.fmod 100 * 60), decide (0 ≤ o) && decide (x.take 1 = [45]))
noncomputable abbrev tupO (vs : List Value) : Obj := { cls := .type "tuple", data := .seq vs.toArray }
theorem cut_from (k : Nat) (x : List UInt8) : BY.cut (some (k : Int)) none x = x.drop k := by
  unfold BY.cut
  show List.take (x.length - clipAt x.length k) (List.drop (clipAt x.length k) x) = _
  rw [List.take_of_length_le (by rw [List.length_drop]; exact Nat.le_refl _), BY.clip_nat]
  rcases Nat.le_total k x.length with h | h
  · rw [Nat.min_eq_left h]
  · rw [Nat.min_eq_right h, List.drop_of_length_le h, List.drop_length]
theorem cut_to (k : Nat) (x : List UInt8) : BY.cut none (some (k : Int)) x = x.take k := by
  unfold BY.cut
  show List.take (clipAt x.length k - 0) x = _
  rw [Nat.sub_zero, BY.clip_nat]
  rcases Nat.le_total k x.length with h | h
  · rw [Nat.min_eq_left h]
  · rw [Nat.min_eq_right h, List.take_of_length_le h, List.take_length]

section
variable {h₀ : Heap} {L : Addr} {m : Str → Option Value} {news : Led} {s : Shared} {Q : Value → Shared → Prop} {Ret : Value → Led → Prop} {h' : Heap} {tk' : Nat} {v : Value}
noncomputable abbrev RetC (h₀ : Heap) (L : Addr) (m : Str → Option Value) (news : Led) (s : Shared) (Q : Value → Shared → Prop) (Ret : Value → Led → Prop) : Prop :=
  ∀ v new h' tk', Ret v new → Fr h₀ L h' m → News h₀ L h' (new ++ news) → Q v { s with heap := h', toks := tk' }
theorem end0 (hret : RetC h₀ L m news s Q Ret) (F : Fr h₀ L h' m) (N : News h₀ L h' news) (hr : Ret v []) : Q v { s with heap := h', toks := tk' } := hret v [] h' tk' hr F N
theorem end1 {D : Addr} {o : Obj} (hret : RetC h₀ L m news s Q Ret) (F : Fr h₀ L h' m) (N : News h₀ L h' ((D, o) :: news)) (hr : Ret v [(D, o)]) : Q v { s with heap := h', toks := tk' } := hret v [(D, o)] h' tk' hr F N
theorem end2 {D D' : Addr} {o o' : Obj} (hret : RetC h₀ L m news s Q Ret) (F : Fr h₀ L h' m) (N : News h₀ L h' ((D, o) :: (D', o') :: news)) (hr : Ret v [(D, o), (D', o')]) : Q v { s with heap := h', toks := tk' } := hret v [(D, o), (D', o')] h' tk' hr F N
theorem tup_ib {D : Addr} {z : Int} {t : Tok} {b : Bool} {x : Int × Bool} (h : (z, b) = x) : ∃ a t', Value.ref D = .ref a ∧ [(D, tupO [.int z t, .bool b])] = [(a, tupO [.int x.1 t', .bool x.2])] := ⟨D, t, rfl, by rw [← h]⟩
end
theorem cut_to1 (x : List UInt8) : BY.cut none (some 1) x = x.take 1 := cut_to 1 x
theorem cut_from1 (x : List UInt8) : BY.cut (some 1) none x = x.drop 1 := cut_from 1 x
theorem pz1 {x : List UInt8} {n : Int} (h1 : BY.cut none (some 1) x = [45]) (h2 : 0 ≤ -n) :
    ((1 : Int) * ((if -n < 0 then - -n else -n).fdiv 100 * 3600 + (if -n < 0 then - -n else -n).fmod 100 * 60), decide (BY.cut none (some 1) x = [45])) = pzF x n := by
  rw [cut_to1] at h1 ⊢
  have h3 : ¬ -n < 0 := by omega
  unfold pzF; simp only [h1, if_true, if_neg h3, decide_true, decide_eq_true h2, Bool.and_true]
theorem pz2 {x : List UInt8} {n : Int} (h1 : BY.cut none (some 1) x = [45]) (h2 : ¬ 0 ≤ -n) :
    ((-1 : Int) * ((if -n < 0 then - -n else -n).fdiv 100 * 3600 + (if -n < 0 then - -n else -n).fmod 100 * 60), decide (0 ≤ -n)) = pzF x n := by
  rw [cut_to1] at h1
  have h3 : -n < 0 := by omega
  unfold pzF; simp only [h1, if_true, if_pos h3, decide_true, Bool.and_true]
theorem pz3 {x : List UInt8} {n : Int} (h1 : ¬ BY.cut none (some 1) x = [45]) (h2 : 0 ≤ n) :
    ((1 : Int) * ((if n < 0 then -n else n).fdiv 100 * 3600 + (if n < 0 then -n else n).fmod 100 * 60), decide (BY.cut none (some 1) x = [45])) = pzF x n := by
  rw [cut_to1] at h1 ⊢
  have h3 : ¬ n < 0 := by omega
  unfold pzF; simp only [if_neg h1, if_neg h3, decide_eq_false h1, Bool.and_false]
theorem pz4 {x : List UInt8} {n : Int} (h1 : ¬ BY.cut none (some 1) x = [45]) (h2 : ¬ 0 ≤ n) :
    ((-1 : Int) * ((if n < 0 then -n else n).fdiv 100 * 3600 + (if n < 0 then -n else n).fmod 100 * 60), decide (0 ≤ n)) = pzF x n := by
  rw [cut_to1] at h1
  have h3 : n < 0 := by omega
  unfold pzF; simp only [if_neg h1, if_pos h3, decide_eq_false h1, decide_eq_false h2, Bool.and_false]

theorem ib_ret {v : Value} {new : Led} {z : Int} {u : Bool} {p : Int × Bool} (hR : ∃ a t, v = .ref a ∧ new = [(a, tupO [.int z t, .bool u])]) (e : (z, u) = p) : ∃ a t, v = .ref a ∧ new = [(a, tupO [.int p.1 t, .bool p.2])] := by
  subst e; exact hR
set_option maxHeartbeats 1000000 in
theorem parse_tail (w : World) (mean : ExcName → Option Value) (mg mb : Str → Option Value) (dp un : Nat) (gd : Option (List Code)) (cn : Str) (cs : Scope) (a : Addr) (ccd : Value) (cl : List (Str × Addr)) (outer : List Env) (base h₀ g : Heap) (L L' : Addr) (m m' : Str → Option Value) (news : Led) (s : Shared) (t1 t2 : Tok) (o sg : Int) (u : Bool) (hsg : sg = 1 ∨ sg = -1) :
    ∀ (st : List Stmt) (hst : st = (bodyAt w 53).drop 6) (sc : Scope) (hsc : sc = scopeAt w 53)
    (hdp : dp + 1 < recursionLimit) (hun : un + 8 * 1 < cLine)
    (FG : Fr h₀ L g m) (B : Below (ktrTop dp un gd cn cs L a ccd cl outer) base (envX cn cs L a ccd cl :: outer) g) (X : (hd.heap_1 w.params).In g) (T : Top hd.view_1 (looseW hd.view_1 [Str.ofString "format_timezone"]) mean mg mb g)
    (F : Fr g L' s.heap (fun y => if y = Str.ofString "offset" then some (.int o t1) else if y = Str.ofString "signum" then some (.int sg t2) else if y = Str.ofString "unnecessary_negative_timezone" then some (.bool u) else m' y)) (N : News g L' s.heap news),
    wpAny (model Challenge.rw_ai0005_01.row.prog w) ((ktrTop dp un gd cn cs L a ccd cl outer).deeper (envOf (Str.ofString "parse_timezone") sc L' 53 (.ref 52))) (execs st (envOf (Str.ofString "parse_timezone") sc L' 53 (.ref 52)))
      (RetPost g L' s (fun v new => ∃ a t, v = .ref a ∧ new = [(a, tupO [.int (sg * ((if o < 0 then -o else o).fdiv 100 * 3600 + (if o < 0 then -o else o).fmod 100 * 60)) t, .bool u])]) news) (fun _ _ => False) s := by
  k_fill
  intro st hst sc hsc hdp hun FG B X T F N
  conv at hst => rhs; whnf
  conv at hsc => rhs; whnf
  subst hst hsc
  k_steps
  rcases hsg with rfl | rfl
  all_goals k_steps
  all_goals refine ret_post1 (P := fun v new => ∃ a t, v = .ref a ∧ new = [(a, tupO [.int (_ * ((if o < 0 then -o else o).fdiv 100 * 3600 + (if o < 0 then -o else o).fmod 100 * 60)) t, .bool u])]) ?_ (by assumption) (by assumption)
  all_goals exact ⟨_, _, rfl, rfl⟩
theorem told_G1_1 : True := by
  k_with "execs cons" => ((k_here; (with_reducible show wpAny _ _ (execs (Stmt.Assign [PySem.Expr.Name (Str.ofString "offset") _] (PySem.Expr.Call (PySem.Expr.Name (Str.ofString "abs") _) _ _ _) _ :: _) _) _ _ _); refine hold ?_))
  k_with "execs cons" => ((k_here; (with_reducible show wpAny _ _ (execs (Stmt.Raise _ _ _ :: _) _) _ _ _); k_dflt (exact absurd hh (by assumption))))
  k_with "execs cons" => ((k_here; (with_reducible show wpAny _ _ (execs (Stmt.Assign [PySem.Expr.Name (Str.ofString "sign") _] _ _ :: _) _) _ _ _); k_dflt (exact absurd (by assumption) hh)))
  trivial
set_option maxHeartbeats 4000000 in
theorem parse_good (w : World) (mean : ExcName → Option Value) (mg mb : Str → Option Value) (x : List UInt8) (tx : Tok) (n : Int) (hx : x.length ≤ 600) (h0 : 1 ≤ x.length) (hh : x.getD 0 0 ∈ ([43, 45] : List UInt8)) (hn : IR.intB (x.drop 1) = some n) :
    Con w mean mg mb 1 53 [.bytes x.toArray tx] (fun v new => ∃ a t, v = .ref a ∧ new = [(a, tupO [.int (pzF x n).1 t, .bool (pzF x n).2])]) := by
  unfold Con
  k_fill
  intro dp un gd cn cs a ccd cl outer A₀ base h₀ L m news s Q E B F X N T hk hd hu hret
  have hn' : IR.intB (BY.cut (some 1) none x) = some n := by rw [show (some (1:Int)) = some ((1:Nat):Int) from rfl, cut_from]; exact hn
  have hl' : (BY.cut (some 1) none x).length ≤ 640 := Nat.le_trans (BY.cut_length ..) (by omega)
  refine wpAny_call ?_
  w_strict (k_dflt cell_enter; k_steps)
  all_goals first
    | (exfalso; exact absurd hh (by assumption))
    | skip
  all_goals unfold Hold
  all_goals (rename Fr _ _ _ _ => F'; rename News _ _ _ _ => N')
  all_goals first
    | refine wpAny_mono (parse_tail w mean mg mb dp un gd cn cs a ccd cl outer base h₀ _ L _ m _ _ _ _ _ _ _ _ (.inl rfl) _ rfl _ rfl hd hu (by assumption) (by assumption) (by assumption) (by assumption) (in3 F' (by with_unfolding_all rfl) (by with_unfolding_all rfl) (by with_unfolding_all rfl)) N') (fun _ _ q => RetPost.use q ?_) (fun _ _ h => h.elim)
    | refine wpAny_mono (parse_tail w mean mg mb dp un gd cn cs a ccd cl outer base h₀ _ L _ m _ _ _ _ _ _ _ _ (.inr rfl) _ rfl _ rfl hd hu (by assumption) (by assumption) (by assumption) (by assumption) (in3 F' (by with_unfolding_all rfl) (by with_unfolding_all rfl) (by with_unfolding_all rfl)) N') (fun _ _ q => RetPost.use q ?_) (fun _ _ h => h.elim)
  all_goals intro v new m9 h9 tk9 hR F9 N9
  all_goals clear F' N'
  all_goals dsimp only
  all_goals k_steps
  all_goals first
    | ((have c1 : BY.cut none (some 1) x = [45] := by with_reducible assumption); first
      | ((have c2 : (0 : Int) ≤ -n := by with_reducible assumption); exact hret v new _ _ (ib_ret hR (pz1 c1 c2)) (by assumption) (by assumption))
      | ((have c2 : ¬ (0 : Int) ≤ -n := by with_reducible assumption); exact hret v new _ _ (ib_ret hR (pz2 c1 c2)) (by assumption) (by assumption)))
    | ((have c1 : ¬ BY.cut none (some 1) x = [45] := by with_reducible assumption); first
      | ((have c2 : (0 : Int) ≤ n := by with_reducible assumption); exact hret v new _ _ (ib_ret hR (pz3 c1 c2)) (by assumption) (by assumption))
      | ((have c2 : ¬ (0 : Int) ≤ n := by with_reducible assumption); exact hret v new _ _ (ib_ret hR (pz4 c1 c2)) (by assumption) (by assumption)))
end
section
open _root_.PySem _root_.PySem.W _root_.PySem.Spec _root_.PySem.Calls _root_.PyProof.Rows
theorem told_ZG : True := by
  k_with_none
  w_top off
  k_with "own omega" => (with_reducible first | exact om6 (by assumption) rfl | exact om0 (by assumption) | exact om2 (by assumption) rfl | exact om3 (by assumption) rfl | exact om4 (by assumption) rfl | exact Int.emod_nonneg _ (by decide) | exact Int.emod_lt_of_pos _ (by decide) | exact om8 (by assumption) rfl | exact om9 (by assumption) rfl)
  k_with "storeName" => ((k_here; k_dflt (first | ((with_reducible show wpAny _ _ (storeName _ _ (Value.int _ _)) _ _ _); refine storeG_int (by k_asm) (by k_asm) ?_ (by rfl) (by rfl); intro hq9 tq9 kq9 Fq9 Nq9) | ((with_reducible show wpAny _ _ (storeName _ _ (Value.bytes _ _)) _ _ _); refine storeG_bytes (by k_asm) (by k_asm) ?_ (by rfl) (by rfl); intro hq9 tq9 kq9 Fq9 Nq9) | (refine storeG_any (by k_asm) (by k_asm) ?_ (by rfl) (by rfl); intro hq9 kq9 Fq9 Nq9)); (try k_sweep)))
  k_with "Go" => (refine go_on (by assumption) ?_)
  k_with "own kby_size" => ((first | assumption | omega | (simp only [List.length_append, List.length_cons, List.length_nil] at *; omega)))
  k_with "subscriptTail" => ((k_here; (with_reducible show wpAny _ _ (subscriptTail _ (Expr.Slice _ _ none _) (Value.bytes (List.toArray _) _) (Value.ref _)) _ _ _); (with_reducible rename Fr _ _ _ _ => Fq9); (with_reducible rename News _ _ _ _ => Nq9); (refine BY.slice_L (s := ⟨_, _, _, _, _⟩) Fq9 Nq9 (by constructor) (by constructor) (by kby_size) ?_); intro _ _ _ Fq9 Nq9 hlenq9))
  k_with "binaryOp Add bytes bytes" => ((k_here; (with_reducible show wpAny _ _ (binaryOp Operator.Add (Value.bytes (List.toArray _) _) (Value.bytes (List.toArray _) _)) _ _ _); (refine BY.add_L (by kby_size) ?_); intro _ _))
  k_with "compareOp Eq bytes bytes" => ((k_here; (with_reducible show wpAny _ _ (compareOp CmpOp.Eq (Value.bytes (List.toArray _) _) (Value.bytes (List.toArray _) _)) _ _ _); (refine BY.eq_L ?_)))
  k_with "compareOp NotEq bytes bytes" => ((k_here; (with_reducible show wpAny _ _ (compareOp CmpOp.NotEq (Value.bytes (List.toArray _) _) (Value.bytes (List.toArray _) _)) _ _ _); (refine BY.ne_L ?_)))
  k_with "subscriptTail" => ((k_here; (with_reducible show wpAny _ _ (subscriptTail _ _ (Value.bytes (List.toArray _) _) (Value.int _ _)) _ _ _); (refine BY.item_L (by kby_size) (by first | decide | omega) (by first | omega | (simp only [List.length_append, List.length_cons, List.length_nil] at *; omega)) ?_); intro _ _))
  k_with "compareOp NotIn int bytes" => ((k_here; (with_reducible show wpAny _ _ (compareOp CmpOp.NotIn (Value.int _ _) (Value.bytes (List.toArray _) _)) _ _ _); (refine BY.notIn_B ?_)))
  k_with "call type:int" => ((k_here; (with_reducible show wpAny _ _ (call (Value.type "int") [Value.bytes (List.toArray _) _]) _ _ _); (refine IR.call_int_bytes (by assumption) (by assumption) ?_)))
  trivial
theorem con_use {w : World} {mean : ExcName → Option Value} {mg mb : Str → Option Value} {D : Nat} {f : Addr} {vs : List Value} {Ret : Value → Led → Prop} (C : Con w mean mg mb D f vs Ret)
    {dp un : Nat} {gd : Option (List Code)} {cn : Str} {cs : Scope} {a : Addr} {ccd : Value} {cl : List (Str × Addr)} {outer : List Env} {A₀ : Around} {base h₀ : Heap} {L : Addr} {m : Str → Option Value} {news : Led} {s : Shared} {Q E : Value → Shared → Prop}
    (B : Below A₀ base outer h₀) (F : Fr h₀ L s.heap m) (X : (hd.heap_1 w.params).In h₀) (N : News h₀ L s.heap news) (T : Top hd.view_1 (looseW hd.view_1 [Str.ofString "format_timezone"]) mean mg mb h₀) (hk : cs.kind = .function)
    (hd' : dp + D < recursionLimit) (hu : un + 8 * D < cLine) (ret : RetC h₀ L m news s Q Ret) :
    wpAny (model Challenge.rw_ai0005_01.row.prog w) (ktrTop dp un gd cn cs L a ccd cl outer) (call (.ref f) vs) Q E s := C _ _ _ _ _ _ _ _ _ _ _ _ _ _ _ _ _ _ B F X N T hk hd' hu ret
theorem con_useG {w : World} {mean : ExcName → Option Value} {mg mb : Str → Option Value} {D : Nat} {f : Addr} {vs : List Value} {Ret : Value → Led → Prop} (C : Con w mean mg mb D f vs Ret)
    {dp un : Nat} {gd : Option (List Code)} {cn : Str} {cs : Scope} {a : Addr} {ccd : Value} {cl : List (Str × Addr)} {outer : List Env} {A₀ : Around} {base h₀ : Heap} {L : Addr} {m : Str → Option Value} {news : Led} {s : Shared} {Q E : Value → Shared → Prop}
    (B : Below A₀ base outer h₀) (F : Fr h₀ L s.heap m) (X : (hd.heap_1 w.params).In h₀) (N : News h₀ L s.heap news) (T : Top hd.view_1 (looseW hd.view_1 [Str.ofString "format_timezone"]) mean mg mb h₀) (hk : cs.kind = .function)
    (hd' : dp + D < recursionLimit) (hu : un + 8 * D < cLine) (ret : ∀ Qv : Value → Shared → Prop, (∀ v s', Q v s' → Qv v s') → ∀ v new h' tk', Ret v new → Fr h₀ L h' m → News h₀ L h' (new ++ news) → Go (Qv v { s with heap := h', toks := tk' })) :
    wpAny (model Challenge.rw_ai0005_01.row.prog w) (ktrTop dp un gd cn cs L a ccd cl outer) (call (.ref f) vs) Q E s := C _ _ _ _ _ _ _ _ _ _ _ _ _ _ _ _ _ _ B F X N T hk hd' hu (ret Q fun _ _ q => q)
theorem get_ib {v : Value} {new : Led} {x : Int × Bool} {h₀ h' : Heap} {L : Addr} {news : Led} (h : ∃ a t, v = .ref a ∧ new = [(a, tupO [.int x.1 t, .bool x.2])]) (N : News h₀ L h' (new ++ news)) :
    ∃ a t, v = .ref a ∧ News h₀ L h' ((a, tupO [.int x.1 t, .bool x.2]) :: news) := by
  obtain ⟨a, t, rfl, rfl⟩ := h
  exact ⟨a, t, rfl, N⟩
set_option maxHeartbeats 4000000 in
theorem told_good (w : World) (mean : ExcName → Option Value) (mg mb : Str → Option Value) (x : List UInt8) (tx : Tok) (n : Int) (hx : x.length ≤ 600) (h0 : 1 ≤ x.length) (hh : x.getD 0 0 ∈ ([43, 45] : List UInt8)) (hn : IR.intB (x.drop 1) = some n) :
    Con w mean mg mb 2 166 [.bytes x.toArray tx] (fun v new => ∃ a t, v = .ref a ∧ new = [(a, tupO [.int (pzF x n).1 t, .bool (pzF x n).2])]) := by
  unfold Con
  k_fill
  intro dp un gd cn cs a ccd cl outer A₀ base h₀ L m news s Q E B F X N T hk hd hu hret
  refine wpAny_call ?_
  w_strict (k_dflt cell_enter; k_steps)
  refine con_use (parse_good w mean mg mb x _ n hx h0 hh hn) (by k_asm) (by k_asm) (by k_asm) (by k_asm) (by k_asm) (by first | exact rfl | assumption) (by ktr_room) (by ktr_units) ?_
  intro v new h' tk' hR F' N'
  obtain ⟨a', t', rfl, N'⟩ := get_ib hR N'
  clear hR
  k_steps
  all_goals refine end1 hret (by assumption) (by assumption) ?_
  all_goals exact ⟨_, _, rfl, rfl⟩
end
section
open _root_.PySem _root_.PySem.W _root_.PySem.Spec _root_.PySem.Calls _root_.PyProof.Rows
theorem told_TZ : True := by
  w_top off
  trivial
noncomputable def ConL (w : World) (mean : ExcName → Option Value) (mg mb : Str → Option Value) (f : Addr) (vs : List Value) (Ret : Value → Led → Prop) : Prop :=
  ∀ (cn : Str) (cs : Scope) (a : Addr) (ccd : Value) (h₀ : Heap) (L : Addr) (m : Str → Option Value) (news : Led) (s : Shared) (Q E : Value → Shared → Prop),
    Below callerA h₀ [] h₀ → Fr h₀ L s.heap m → (hd.heap_1 w.params).In h₀ → News h₀ L s.heap news → Top hd.view_1 (looseW hd.view_1 [Str.ofString "format_timezone"]) mean mg mb h₀ → cs.kind = .function →
    (∀ v new h' tk', Ret v new → Fr h₀ L h' m → News h₀ L h' (new ++ news) → Q v { s with heap := h', toks := tk' }) →
    wpK (model Challenge.rw_ai0005_01.row.prog w) (callerA.deeper (envOf cn cs L a ccd)) (call (.ref f) vs) Q E s

noncomputable abbrev tzF (x : List UInt8) : Option (Int × Bool) := if x.getD 0 0 ∈ ([43, 45] : List UInt8) then (IR.intB (x.drop 1)).map (pzF x) else none
noncomputable def RetIB (o : Option (Int × Bool)) (v : Value) (new : Led) : Prop := match o with
  | none => v = .none ∧ new = []
  | some z => ∃ a t, v = .ref a ∧ new = [(a, tupO [.int z.1 t, .bool z.2])]

theorem told_TZ_2 : True := by
  k_with "execs cons" => ((k_here; (with_reducible show wpAny _ _ (execs (Stmt.Raise _ _ _ :: _) _) _ _ _); k_dflt (exact absurd hg (by assumption))))
  k_with "execs cons" => ((k_here; (with_reducible show wpAny _ _ (execs (Stmt.Assign [PySem.Expr.Name (Str.ofString "sign") _] _ _ :: _) _) _ _ _); k_dflt (exact absurd (by assumption) hg)))
  trivial
set_option maxHeartbeats 4000000 in
theorem zone_told (w : World) (mean : ExcName → Option Value) (mg mb : Str → Option Value) (x : List UInt8) (tx : Tok) (hx : x.length ≤ 600) (h0 : 1 ≤ x.length) :
    ConL w mean mg mb 166 [.bytes x.toArray tx] (RetIB (tzF x)) := by
  unfold ConL
  k_fill
  intro cn cs a ccd h₀ L m news s Q E B F X N T hk hret
  refine wpK_call ?_
  refine' codeK_defS0 ?k1 ?k2 ?k3 ?k4 ?k5 ?kA ?k6 ?k7 ?k8 ?k9 ?kB ?_ ?cK ?c2 ?c3 ?c4 ?c5
  case kA => exact rfl
  case k2 => k_asm
  case k1 => k_asm
  case k3 => k_asm
  case k4 => k_asm
  case k5 => k_asm
  case k6 => k_is
  case k7 => k_is
  case k8 => k_room
  case k9 => exact BindsTo.of_eq rfl
  case kB => exact locs rfl
  case cK => assumption
  case c2 => exact rfl
  case c3 => exact rfl
  case c4 => exact rfl
  case c5 => decide
  intro g' L' h' FG' F' N' B' X' T' D'
  try dsimp only
  try k_lift B'
  try k_fold
  refine wpK_execs_cons (wpK_Try_except (gen_K fun _ _ _ _ => wpK_execs_cons (wpK_Assign_Name (wpK_Call ?_))))
  k_steps
  refine wpK_callWith (K := hd.heap_1 w.params) ?_ ?_
  · k_is
  k_steps
  by_cases hg : x.getD 0 0 ∈ ([43, 45] : List UInt8)
  · cases hn : IR.intB (x.drop 1) with
    | some n =>
      have ez : tzF x = some (pzF x n) := by unfold tzF; rw [if_pos hg, hn]; rfl
      rw [ez] at hret
      refine wpK_of (con_use (parse_good w mean mg mb x _ n hx h0 hg hn) (by k_asm) (by k_asm) (by k_asm) (by k_asm) (by k_asm) (by first | exact rfl | assumption) (by ktr_room) (by ktr_units) ?_)
      intro v new h' tk' hR F' N'
      obtain ⟨a', t', rfl, N'⟩ := get_ib hR N'
      clear hR
      k_steps
      refine wpK_of ?_
      k_steps
      dsimp only
      refine wpK_of ?_
      k_steps
      all_goals refine end1 hret (by assumption) (by assumption) ?_
      all_goals exact ⟨_, _, rfl, rfl⟩
    | none =>
      have ez : tzF x = none := by unfold tzF; rw [if_pos hg, hn]; rfl
      rw [ez] at hret
      refine wpK_call ?_
      refine' codeK_def ?k1 ?k2 ?k3 ?k4 ?k5 ?kA ?kF ?kK ?k6 ?k7 ?k8 ?k9 ?kB ?_ ?c2 ?c3 ?c4 ?c5
      case kA => exact rfl
      case kF => exact rfl
      case kK => exact rfl
      case k1 => k_asm
      case k2 => k_asm
      case k3 => k_asm
      case k4 => k_asm
      case k5 => k_asm
      case k6 => k_is
      case k7 => k_is
      case k8 => k_room
      case k9 => exact BindsTo.of_eq rfl
      case kB => exact locs rfl
      case c2 => exact rfl
      case c3 => exact rfl
      case c4 => exact rfl
      case c5 => decide
      intro g' L' h' FG' F' N' B' X' T'
      try dsimp only
      try k_lift B'
      try k_fold
      refine wpK_execs_cons (wpK_of ?_)
      k_steps
      · dsimp only
        refine wpK_execs_cons (wpK_of ?_)
        k_steps
        dsimp only
        refine wpK_execs_cons (wpK_Assign_Name (wpK_Call ?_))
        k_steps
        refine wpK_callWithT ?_
        k_steps
        refine IR.wpK_int_bad (Nat.le_trans (BY.cut_length ..) (by omega)) (by rw [cut_from1]; exact hn) rfl (IR.strict_in (by k_in)) (fun h' tk e vs hx => ?_)
        k_steps
        exact end0 hret (by assumption) (by assumption) ⟨rfl, rfl⟩
      all_goals exact end0 hret (by assumption) (by assumption) ⟨rfl, rfl⟩
  · have ez : tzF x = none := by unfold tzF; rw [if_neg hg]
    rw [ez] at hret
    refine wpK_of ?_
    k_steps
    all_goals first
      | exact absurd (by assumption) hg
      | exact end0 hret (by assumption) (by assumption) ⟨rfl, rfl⟩
end
section
open _root_.PySem _root_.PySem.W _root_.PySem.Spec _root_.PySem.Calls _root_.PyProof.Rows
section
open _root_.PySem _root_.PySem.W _root_.PySem.Spec _root_.PySem.Calls _root_.PyProof.Rows
section
open _root_.PySem _root_.PySem.W _root_.PySem.Spec _root_.PySem.Calls _root_.PyProof.Rows
section
open _root_.PySem _root_.PySem.W _root_.PySem.Spec _root_.PySem.Calls _root_.PyProof.Rows
theorem told_C1 : True := by
  k_with_none
  w_top off
  k_with "own omega" => (with_reducible first | exact om6 (by assumption) rfl | exact om0 (by assumption) | exact om2 (by assumption) rfl | exact om3 (by assumption) rfl | exact om4 (by assumption) rfl | exact Int.emod_nonneg _ (by decide) | exact Int.emod_lt_of_pos _ (by decide) | exact om8 (by assumption) rfl | exact om9 (by assumption) rfl)
  k_with "storeName" => ((k_here; k_dflt (first | ((with_reducible show wpAny _ _ (storeName _ _ (Value.int _ _)) _ _ _); refine storeG_int (by k_asm) (by k_asm) ?_ (by rfl) (by rfl); intro hq9 tq9 kq9 Fq9 Nq9) | ((with_reducible show wpAny _ _ (storeName _ _ (Value.bytes _ _)) _ _ _); refine storeG_bytes (by k_asm) (by k_asm) ?_ (by rfl) (by rfl); intro hq9 tq9 kq9 Fq9 Nq9) | (refine storeG_any (by k_asm) (by k_asm) ?_ (by rfl) (by rfl); intro hq9 kq9 Fq9 Nq9)); (try k_sweep)))
  k_with "Go" => (refine go_on (by assumption) ?_)
  k_with "own kby_size" => ((first | assumption | omega | (simp only [List.length_append, List.length_cons, List.length_nil] at *; omega)))
  k_with "subscriptTail" => ((k_here; (with_reducible show wpAny _ _ (subscriptTail _ (Expr.Slice _ _ none _) (Value.bytes (List.toArray _) _) (Value.ref _)) _ _ _); (with_reducible rename Fr _ _ _ _ => Fq9); (with_reducible rename News _ _ _ _ => Nq9); (refine BY.slice_L (s := ⟨_, _, _, _, _⟩) Fq9 Nq9 (by constructor) (by constructor) (by kby_size) ?_); intro _ _ _ Fq9 Nq9 hlenq9))
  k_with "binaryOp Add bytes bytes" => ((k_here; (with_reducible show wpAny _ _ (binaryOp Operator.Add (Value.bytes (List.toArray _) _) (Value.bytes (List.toArray _) _)) _ _ _); (refine BY.add_L (by kby_size) ?_); intro _ _))
  k_with "compareOp Eq bytes bytes" => ((k_here; (with_reducible show wpAny _ _ (compareOp CmpOp.Eq (Value.bytes (List.toArray _) _) (Value.bytes (List.toArray _) _)) _ _ _); (refine BY.eq_L ?_)))
  k_with "compareOp NotEq bytes bytes" => ((k_here; (with_reducible show wpAny _ _ (compareOp CmpOp.NotEq (Value.bytes (List.toArray _) _) (Value.bytes (List.toArray _) _)) _ _ _); (refine BY.ne_L ?_)))
  k_with "subscriptTail" => ((k_here; (with_reducible show wpAny _ _ (subscriptTail _ _ (Value.bytes (List.toArray _) _) (Value.int _ _)) _ _ _); (refine BY.item_L (by kby_size) (by first | decide | omega) (by first | omega | (simp only [List.length_append, List.length_cons, List.length_nil] at *; omega)) ?_); intro _ _))
  k_with "compareOp NotIn int bytes" => ((k_here; (with_reducible show wpAny _ _ (compareOp CmpOp.NotIn (Value.int _ _) (Value.bytes (List.toArray _) _)) _ _ _); (refine BY.notIn_B ?_)))
  k_with "call type:int" => ((k_here; (with_reducible show wpAny _ _ (call (Value.type "int") [Value.bytes (List.toArray _) _]) _ _ _); (refine IR.call_int_bytes (by assumption) (by assumption) ?_)))
  k_with "getMethod bytes" => ((k_here; first | (with_reducible refine BW.meth_rindex ?_) | (with_reducible refine BW.meth_rsplit ?_) | (with_reducible refine BW.meth_split ?_) | (with_reducible refine BW.meth_join ?_)))
  k_with "call builtin:bytes.rindex" => ((k_here; first
  | (refine BW.rindex_found (by with_reducible assumption) ?_; intro _ _)
  | (refine BW.rindex_not (by with_reducible assumption) (by first | exact rfl | assumption) ?_; intro _ _ _ _ hxq9)))
  k_with "call builtin:bytes.rsplit" => ((k_here; first
  | (refine BW.rsplit_two (by k_asm) (by k_asm) (by kby_size) (by with_reducible assumption) ?_; intro Dq9 t1q9 t2q9 hq9 kq9 Fq9 Nq9 l1q9; (try k_lt l1q9))
  | (refine BW.rsplit_one (by k_asm) (by k_asm) (by kby_size) (by with_reducible assumption) ?_; intro Dq9 t1q9 hq9 kq9 Fq9 Nq9 l1q9; (try k_lt l1q9))))
  k_with "call builtin:bytes.split" => ((k_here; (refine BW.split_L (by k_asm) (by k_asm) (by kby_size) ?_); intro Dq9 vsq9 hq9 kq9 hvsq9 Fq9 Nq9 l1q9; (try k_lt l1q9)))
  k_with "call builtin:bytes.join" => ((k_here; (refine BW.join_L (News.isList (by k_asm) (by k_mem)) (by with_reducible assumption) (by kby_size) ?_); intro _ _))
  k_with "assign Tuple" => ((k_here; (with_reducible show wpAny _ _ (assign (Expr.Tuple _ _ _) _ (Value.ref _)) _ _ _); (refine BW.unpack_one (News.isList (by k_asm) (by k_mem)) (by exact rfl) (by exact rfl) (by exact rfl) ?_); intro _ _ _ _ hxq9))
  k_with "subscriptTail" => ((k_here; (with_reducible show wpAny _ _ (subscriptTail _ _ (Value.ref _) (Value.int _ _)) _ _ _); (refine BW.item_BL (News.isList (by k_asm) (by k_mem)) (by with_reducible assumption) (by first | assumption | omega) (by first | assumption | omega) (by first | assumption | omega) ?_); intro _))
  k_with "noteFrame ref" => ((k_here; k_dflt ((with_reducible rename Heap.MadeExc _ _ _ _ _ => hxMq9); (refine look_made2 (Heap.MadeExc.of hxMq9) (by k_asm) (by k_asm) (by assumption) ?_); clear hxMq9; intro hq9 tq9 Gq9 Fq9 Rq9 alq9 Uq9; (try dsimp only at Rq9 Uq9 ⊢))))
  k_with "leaving ref" => ((k_here; k_dflt ((with_reducible rename KtsDicts _ _ => kdX); (with_reducible rename Heap.MadeExc _ _ _ _ _ => hxMq9); (refine leave_raise2 (by assumption) (Heap.MadeExc.of hxMq9) (by assumption) (by k_asm) ?_); intro hq9 tq9 Sq9 alq9 Uq9; (have Rq9 := RaisedS.toK Sq9); (try dsimp only at Sq9 Rq9 Uq9 ⊢))))
  k_with "noteFrame ref" => ((k_here; k_dflt ((rename RaisedS _ _ _ _ _ _ _ _ _ => rsX); (with_reducible rename Alone _ _ => alX); (with_reducible show wpAny _ _ (noteFrame _ _) (fun _ s₂ => wpAny _ _ (setFlight _ none) (fun _ s₃ => wpAny _ _ (handleBy _ _ [ExceptHandler.ExceptHandler _ (some _) [Stmt.Raise (some _) (some _) _] _]) _ _ s₃) _ s₂) _ _); (refine look_on2 rsX alX (by assumption) (by assumption) ?_); intro hq9 Rq9 alq9 Uq9; (try dsimp only at Rq9 Uq9 ⊢))))
  k_with "handleBy ref" => ((k_here; k_dflt ((with_reducible rename Alone _ _ => alX); (refine hit2 (by assumption) alX (by assumption) (by assumption) (by assumption) (by assumption) (by assumption) (by assumption) (by kts_test) PySem.F.excBase_Exception PySem.F.excRaise_ValueError (by k_is) (by k_exc) ?_ (fun _ _ hh => hh)); intro hq9 tkq9 e2q9 t2q9 Rq9 RKq9 Uq9; (try dsimp only at Rq9 RKq9 Uq9 ⊢))))
  trivial
theorem bytesAre_nil : BZ.BytesAre [] [] := ⟨rfl, fun j => ⟨0, by simp⟩⟩
theorem bytesAre_cons {y : List UInt8} {t : Tok} {vs : List Value} {l : List (List UInt8)} (h : BZ.BytesAre vs l) : BZ.BytesAre (.bytes y.toArray t :: vs) (y :: l) := by
  refine ⟨by simp [h.1], fun j => ?_⟩
  cases j with
  | zero => exact ⟨t, by simp⟩
  | succ j => obtain ⟨t', e⟩ := h.2 j; exact ⟨t', by simpa using e⟩
noncomputable abbrev RetL (l : List (List UInt8)) (v : Value) (new : Led) : Prop := ∃ a vs, v = .ref a ∧ new = [(a, listOf vs.toArray 0)] ∧ BZ.BytesAre vs l
noncomputable abbrev RetZ (l : List Int) (v : Value) (new : Led) : Prop := ∃ a vs, v = .ref a ∧ new = [(a, listOf vs.toArray 0)] ∧ IntsAre vs l
@[elab_as_elim] theorem retL_use {l : List (List UInt8)} {v : Value} {new : Led} {C : Value → Led → Prop} (q : RetL l v new) (k : ∀ a vs, BZ.BytesAre vs l → C (.ref a) [(a, listOf vs.toArray 0)]) : C v new := by
  obtain ⟨a, vs, rfl, rfl, h⟩ := q
  exact k a vs h
@[elab_as_elim] theorem retZ_use {l : List Int} {v : Value} {new : Led} {C : Value → Led → Prop} (q : RetZ l v new) (k : ∀ a vs, IntsAre vs l → C (.ref a) [(a, listOf vs.toArray 0)]) : C v new := by
  obtain ⟨a, vs, rfl, rfl, h⟩ := q
  exact k a vs h
set_option maxHeartbeats 4000000 in
theorem people_con (w : World) (mean : ExcName → Option Value) (mg mb : Str → Option Value) : Con w mean mg mb 1 82 [] (RetL PF.people) := by
  unfold Con
  k_fill
  intro dp un gd cn cs a ccd cl outer A₀ base h₀ L m news s Q E B F X N T hk hd hu hret
  refine wpAny_call ?_
  w_strict (k_dflt cell_enter; k_steps)
  refine end1 hret (by assumption) (by assumption) ⟨_, _, rfl, rfl, ?_⟩
  exact (by unfold PF.people; repeat (first | exact bytesAre_nil | apply bytesAre_cons))
set_option maxHeartbeats 4000000 in
theorem signs_con (w : World) (mean : ExcName → Option Value) (mg mb : Str → Option Value) : Con w mean mg mb 1 89 [] (RetL PF.signs) := by
  unfold Con
  k_fill
  intro dp un gd cn cs a ccd cl outer A₀ base h₀ L m news s Q E B F X N T hk hd hu hret
  refine wpAny_call ?_
  w_strict (k_dflt cell_enter; k_steps)
  refine end1 hret (by assumption) (by assumption) ⟨_, _, rfl, rfl, ?_⟩
  exact (by unfold PF.signs; repeat (first | exact bytesAre_nil | apply bytesAre_cons))
set_option maxHeartbeats 4000000 in
theorem written_con (w : World) (mean : ExcName → Option Value) (mg mb : Str → Option Value) : Con w mean mg mb 1 96 [] (RetL PF.written) := by
  unfold Con
  k_fill
  intro dp un gd cn cs a ccd cl outer A₀ base h₀ L m news s Q E B F X N T hk hd hu hret
  refine wpAny_call ?_
  w_strict (k_dflt cell_enter; k_steps)
  refine end1 hret (by assumption) (by assumption) ⟨_, _, rfl, rfl, ?_⟩
  exact (by unfold PF.written; repeat (first | exact bytesAre_nil | apply bytesAre_cons))
set_option maxHeartbeats 4000000 in
theorem sizes_con (w : World) (mean : ExcName → Option Value) (mg mb : Str → Option Value) : Con w mean mg mb 1 103 [] (RetZ PF.sizes) := by
  unfold Con
  k_fill
  intro dp un gd cn cs a ccd cl outer A₀ base h₀ L m news s Q E B F X N T hk hd hu hret
  refine wpAny_call ?_
  w_strict (k_dflt cell_enter; k_steps)
  refine end1 hret (by assumption) (by assumption) ⟨_, _, rfl, rfl, ?_⟩
  exact (by unfold PF.sizes; repeat (first | exact .nil | apply IntsAre.cons))
end
section
open _root_.PySem _root_.PySem.W _root_.PySem.Spec _root_.PySem.Calls _root_.PyProof.Rows
theorem told_C2 : True := by
  w_top off
  trivial
set_option maxHeartbeats 4000000 in
theorem plain_con (w : World) (mean : ExcName → Option Value) (mg mb : Str → Option Value) (x : Int) (tk : Tok) : Con w mean mg mb 1 131 [.int x tk] (fun v new => v = .bool (PF.plainF x) ∧ new = []) := by
  unfold Con
  k_fill
  intro dp un gd cn cs a ccd cl outer A₀ base h₀ L m news s Q E B F X N T hk hd hu hret
  refine wpAny_call ?_
  w_strict (k_dflt cell_enter; k_steps)
  all_goals refine end0 hret (by assumption) (by assumption) ⟨?_, rfl⟩
  all_goals (unfold PF.plainF; congr 1)
  · rename_i h1 _ _ _ _; simp [h1]
  · rename_i h1 h2 _ _ _ _; simp [h1, h2]
  · rename_i h1 h2 h3 _ _ _ _; simp [h1, h2, h3]; by_cases q : x.fmod 1800 = 0 <;> simp [q]
  · rename_i h1 h2 h3 _ _ _ _; simp [h1, h2, h3]
end
section
open _root_.PySem _root_.PySem.W _root_.PySem.Spec _root_.PySem.Calls _root_.PyProof.Rows
theorem told_C3 : True := by
  w_top off
  trivial
noncomputable def wholeZ : Int → List Int → Option Int
  | n, [] => some n
  | n, c :: l => if c < 48 ∨ 57 < c then none else wholeZ (n * 10 + c - 48) l
theorem wholeZ_app : ∀ (l r : List Int) (n : Int), wholeZ n (l ++ r) = (wholeZ n l).bind fun m => wholeZ m r
  | [], r, n => rfl
  | c :: l, r, n => by
    show (if c < 48 ∨ 57 < c then none else wholeZ (n * 10 + c - 48) (l ++ r)) = (if c < 48 ∨ 57 < c then none else wholeZ (n * 10 + c - 48) l).bind _
    split
    · rfl
    · exact wholeZ_app l r _
theorem wholeZ_good {pre : List Int} {c m : Int} (h : wholeZ 0 pre = some m) (h1 : ¬ c < 48) (h2 : ¬ c > 57) : wholeZ 0 (pre ++ [c]) = some (m * 10 + c - 48) := by
  rw [wholeZ_app, h]
  show (if c < 48 ∨ 57 < c then none else some (m * 10 + c - 48)) = _
  rw [if_neg (by omega)]
theorem wholeZ_bad {pre post : List Int} {c m : Int} (h : wholeZ 0 pre = some m) (h1 : c < 48 ∨ 57 < c) : wholeZ 0 (pre ++ c :: post) = none := by
  rw [wholeZ_app, h]
  show (if c < 48 ∨ 57 < c then none else _) = _
  rw [if_pos h1]
noncomputable def wholeF (x : List UInt8) : Option Int :=
  let y := if x.take 1 = [45] ∨ x.take 1 = [43] then x.drop 1 else x
  if y = [] then none else (wholeZ 0 (y.map fun c => (c.toNat : Int))).map fun n => if x.take 1 = [45] then -n else n
noncomputable def RetO (o : Option Int) (v : Value) (new : Led) : Prop := new = [] ∧ match o with
  | none => v = .none
  | some n => ∃ t, v = .int n t
theorem whole_minus {x : List UInt8} (h1 : BY.cut none (some 1) x = [45]) : wholeF x = if BY.cut (some 1) none x = [] then none else (wholeZ 0 ((BY.cut (some 1) none x).map fun c => (c.toNat : Int))).map fun n => -n := by
  rw [cut_to1] at h1; rw [cut_from1]; unfold wholeF; simp only [h1, true_or, if_true]
theorem whole_plus {x : List UInt8} (h0 : ¬ BY.cut none (some 1) x = [45]) (h1 : BY.cut none (some 1) x = [43]) : wholeF x = if BY.cut (some 1) none x = [] then none else (wholeZ 0 ((BY.cut (some 1) none x).map fun c => (c.toNat : Int))) := by
  rw [cut_to1] at h0 h1; rw [cut_from1]; unfold wholeF; simp only [h1, or_true, if_true]
  split
  · rfl
  · simp
theorem whole_bare {x : List UInt8} (h0 : ¬ BY.cut none (some 1) x = [45]) (h1 : ¬ BY.cut none (some 1) x = [43]) : wholeF x = if x = [] then none else (wholeZ 0 (x.map fun c => (c.toNat : Int))) := by
  rw [cut_to1] at h0 h1; unfold wholeF; simp only [h0, h1, or_self, if_false]
  split
  · rfl
  · simp
theorem whole_f1 {y : List Int} {n : Int} {t : Tok} (h : wholeZ 0 y = some n) : (match wholeZ 0 y with | none => Value.int n t = .none | some m => ∃ t', Value.int n t = .int m t') := by rw [h]; exact ⟨t, rfl⟩
theorem whole_f2 {y : List Int} {n : Int} {t : Tok} (h : wholeZ 0 y = some n) : (match (wholeZ 0 y).map (fun n => -n) with | none => Value.int (-n) t = .none | some m => ∃ t', Value.int (-n) t = .int m t') := by rw [h]; exact ⟨t, rfl⟩
theorem news_left {h₀ h : Heap} {L : Addr} {l own : Led} (N : News h₀ L h (l ++ own)) : News h₀ L h l := fun p hp => N p (List.mem_append_left _ hp)
theorem told_C3_3 : True := by
  k_with "own kst_p" => (first | exact wholeZ_good (by assumption) (by assumption) (by assumption) | exact rfl)
  trivial
noncomputable def wholeT (mi : Bool) (Y : List UInt8) : Option Int := if Y = [] then none else (wholeZ 0 (Y.map fun c => (c.toNat : Int))).map fun n => if mi = true then -n else n
section
variable {x Y : List UInt8} {mi m : Bool} {n : Int} {t : Tok} {v : Value} {new : Led} {l : List Int}
theorem wt_empty (h : Y = []) : wholeT mi Y = none := if_pos h
theorem wt_bad (h : ¬ Y = []) (kE : (Y.map fun c => (c.toNat : Int)) = l) (hz : wholeZ 0 l = none) : wholeT mi Y = none := by unfold wholeT; rw [if_neg h, kE, hz]; rfl
theorem wt_neg (h : ¬ Y = []) (hz : wholeZ 0 (Y.map fun c => (c.toNat : Int)) = some n) (e : mi = true) : (match wholeT mi Y with | none => Value.int (-n) t = .none | some m => ∃ t', Value.int (-n) t = .int m t') := by
  subst e; unfold wholeT; rw [if_neg h, hz]; exact ⟨t, rfl⟩
theorem wt_pos (h : ¬ Y = []) (hz : wholeZ 0 (Y.map fun c => (c.toNat : Int)) = some n) (e : mi = false) : (match wholeT mi Y with | none => Value.int n t = .none | some m => ∃ t', Value.int n t = .int m t') := by
  subst e; unfold wholeT; rw [if_neg h, hz]; exact ⟨t, rfl⟩
theorem whole_ret (hR : RetO (wholeT mi Y) v new) (e : wholeF x = wholeT m Y) (e1 : mi = m) : RetO (wholeF x) v new := by rw [e, ← e1]; exact hR
theorem whole_t1 (h1 : BY.cut none (some 1) x = [45]) : wholeF x = wholeT true (BY.cut (some 1) none x) := by rw [whole_minus h1]; rfl
theorem whole_t2 (h0 : ¬ BY.cut none (some 1) x = [45]) (h1 : BY.cut none (some 1) x = [43]) : wholeF x = wholeT false (BY.cut (some 1) none x) := by rw [whole_plus h0 h1]; unfold wholeT; simp
theorem whole_t3 (h0 : ¬ BY.cut none (some 1) x = [45]) (h1 : ¬ BY.cut none (some 1) x = [43]) : wholeF x = wholeT false x := by rw [whole_bare h0 h1]; unfold wholeT; simp
end
set_option maxHeartbeats 1000000 in
theorem whole_tail (w : World) (mean : ExcName → Option Value) (mg mb : Str → Option Value) (dp un : Nat) (gd : Option (List Code)) (cn : Str) (cs : Scope) (a : Addr) (ccd : Value) (cl : List (Str × Addr)) (outer : List Env) (base h₀ g : Heap) (L L' : Addr) (m m' : Str → Option Value) (news : Led) (s : Shared) (t0 : Tok) (mi : Bool) (Y : List UInt8) (hY : Y.length ≤ 600) :
    ∀ (st : List Stmt) (hst : st = (bodyAt w 152).drop 2) (sc : Scope) (hsc : sc = scopeAt w 152)
    (hdp : dp + 1 < recursionLimit) (hun : un + 8 * 1 < cLine)
    (FG : Fr h₀ L g m) (B : Below (ktrTop dp un gd cn cs L a ccd cl outer) base (envX cn cs L a ccd cl :: outer) g) (X : (hd.heap_1 w.params).In g) (T : Top hd.view_1 (looseW hd.view_1 [Str.ofString "format_timezone"]) mean mg mb g)
    (F : Fr g L' s.heap (fun y => if y = Str.ofString "minus" then some (.bool mi) else if y = Str.ofString "text" then some (.bytes Y.toArray t0) else m' y)) (N : News g L' s.heap news),
    wpAny (model Challenge.rw_ai0005_01.row.prog w) ((ktrTop dp un gd cn cs L a ccd cl outer).deeper (envOf (Str.ofString "_law_whole") sc L' 152 (.ref 151))) (execs st (envOf (Str.ofString "_law_whole") sc L' 152 (.ref 151)))
      (RetPost g L' s (RetO (wholeT mi Y)) news) (fun _ _ => False) s := by
  k_fill
  intro st hst sc hsc hdp hun FG B X T F N
  conv at hst => rhs; whnf
  conv at hsc => rhs; whnf
  subst hst hsc
  k_steps
  all_goals try k_state (fun pre total => wholeZ 0 pre = some total) "total"
  all_goals try k_steps
  all_goals refine ret_post0 ⟨rfl, ?_⟩ (by assumption) (by first | assumption | exact news_left (by assumption))
  all_goals first
    | (rw [wt_empty (of_decide_eq_true (by assumption))])
    | ((with_reducible rename (List.map _ _ = _ ++ _) => kE); rw [wt_bad (of_decide_eq_false (by assumption)) kE (wholeZ_bad (by assumption) (by first | exact .inl (by assumption) | exact .inr (by assumption)))])
    | exact wt_neg (of_decide_eq_false (by assumption)) (by assumption) (by assumption)
    | exact wt_pos (of_decide_eq_false (by assumption)) (by assumption) (by assumption)
theorem told_C3_4 : True := by
  k_with "execs cons" => ((k_here; (with_reducible show wpAny _ _ (execs (Stmt.If (PySem.Expr.Compare (PySem.Expr.Name (Str.ofString "text") _) _ _ _) _ _ _ :: _) _) _ _ _); refine hold ?_))
  trivial
set_option maxHeartbeats 4000000 in
theorem whole_con (w : World) (mean : ExcName → Option Value) (mg mb : Str → Option Value) (x : List UInt8) (tx : Tok) (hx : x.length ≤ 600) : Con w mean mg mb 1 152 [.bytes x.toArray tx] (RetO (wholeF x)) := by
  unfold Con
  k_fill
  intro dp un gd cn cs a ccd cl outer A₀ base h₀ L m news s Q E B F X N T hk hd hu hret
  have q1 : (BY.cut (some 1) none x).length ≤ 600 := Nat.le_trans (BY.cut_length ..) hx
  refine wpAny_call ?_
  w_strict (k_dflt cell_enter; k_steps)
  all_goals unfold Hold
  all_goals (rename Fr _ _ _ _ => F'; rename News _ _ _ _ => N')
  all_goals first
    | refine wpAny_mono (whole_tail w mean mg mb dp un gd cn cs a ccd cl outer base h₀ _ L _ m _ _ _ _ _ _ q1 _ rfl _ rfl hd hu (by assumption) (by assumption) (by assumption) (by assumption) (in2 F' (by with_unfolding_all rfl) (by with_unfolding_all rfl)) N') (fun _ _ q => RetPost.use q ?_) (fun _ _ h => h.elim)
    | refine wpAny_mono (whole_tail w mean mg mb dp un gd cn cs a ccd cl outer base h₀ _ L _ m _ _ _ _ _ _ hx _ rfl _ rfl hd hu (by assumption) (by assumption) (by assumption) (by assumption) (in2 F' (by with_unfolding_all rfl) (by with_unfolding_all rfl)) N') (fun _ _ q => RetPost.use q ?_) (fun _ _ h => h.elim)
  all_goals intro v new m9 h9 tk9 hR F9 N9
  all_goals clear F' N'
  all_goals dsimp only
  all_goals k_steps
  all_goals first
    | exact hret v new _ _ (whole_ret hR (whole_t1 (by assumption)) (by first | rfl | exact decide_eq_true (by assumption))) (by assumption) (by assumption)
    | exact hret v new _ _ (whole_ret hR (whole_t2 (by assumption) (by assumption)) (by first | rfl | exact decide_eq_false (by assumption))) (by assumption) (by assumption)
    | exact hret v new _ _ (whole_ret hR (whole_t3 (by assumption) (by assumption)) (by first | rfl | exact decide_eq_false (by assumption))) (by assumption) (by assumption)
end
section
open _root_.PySem _root_.PySem.W _root_.PySem.NumText
namespace PA
theorem step_none {p : Array Nat × Bool} {c : Nat} (h95 : c ≠ 95) (h : ¬ (48 ≤ c ∧ c ≤ 57)) : NumText.step 10 p c = none := by
  unfold NumText.step
  rw [if_neg (by rw [beq_iff_eq]; exact h95)]
  unfold digit?
  rw [if_neg (by simpa using h)]
  split
  · rename_i d hd
    split at hd
    · rename_i h1
      simp at h1
      cases hd
      rw [if_neg (Nat.not_lt.mpr (Nat.le_trans (by decide) (Nat.sub_le_sub_right h1.1 87)))]
    · split at hd
      · rename_i h1
        simp at h1
        cases hd
        rw [if_neg (Nat.not_lt.mpr (Nat.le_trans (by decide) (Nat.sub_le_sub_right h1.1 55)))]
      · cases hd
  · rfl
theorem fold_none : ∀ (cs : List Nat) (p : Array Nat × Bool), 95 ∉ cs → ¬ AllDigits cs → cs.foldlM (NumText.step 10) p = none
  | [], _, _, h => absurd (fun c hc => nomatch hc) h
  | c :: cs, p, h95, h => by
    rw [List.foldlM_cons]
    by_cases hc : 48 ≤ c ∧ c ≤ 57
    · obtain ⟨ds, b⟩ := p
      rw [step_digit hc]
      show cs.foldlM (NumText.step 10) (ds.push (c - 48), true) = none
      exact fold_none cs _ (fun q => h95 (.tail _ q)) fun q => h fun d hd => by
        rcases List.mem_cons.mp hd with rfl | hd
        · exact hc
        · exact q d hd
    · rw [step_none (fun q => h95 (q ▸ .head _)) hc]; rfl
theorem digits_none {cs : List Nat} (h95 : 95 ∉ cs) (h : ¬ AllDigits cs) : digits? 10 cs = none := by
  unfold digits?
  rw [fold_none cs _ h95 h]; rfl
theorem wz_in {c : Nat} (h : 48 ≤ c ∧ c ≤ 57) : ¬ ((c : Int) < 48 ∨ 57 < (c : Int)) := fun q => q.elim (Int.not_lt.mpr (Int.ofNat_le.mpr h.1)) (Int.not_lt.mpr (Int.ofNat_le.mpr h.2))
theorem wz_out {c : Nat} (h : ¬ (48 ≤ c ∧ c ≤ 57)) : (c : Int) < 48 ∨ 57 < (c : Int) := Classical.or_iff_not_imp_left.mpr fun q => Int.ofNat_lt.mpr (Nat.not_le.mp fun q2 => h ⟨Int.ofNat_le.mp (Int.not_lt.mp q), q2⟩)
theorem whole_digits : ∀ (cs : List Nat) (n : Nat), AllDigits cs → wholeZ (n : Int) (cs.map fun (c : Nat) => (c : Int)) = some ((cs.foldl (fun acc c => acc * 10 + (c - 48)) n : Nat) : Int)
  | [], n, _ => rfl
  | c :: cs, n, h => by
    have hc := h.head
    show (if (c : Int) < 48 ∨ 57 < (c : Int) then none else wholeZ ((n : Int) * 10 + (c : Int) - 48) (cs.map _)) = _
    rw [if_neg (wz_in hc), List.foldl_cons, ← whole_digits cs _ h.tail]
    congr 1
    rw [Int.add_sub_assoc, Int.natCast_add, Int.natCast_mul, Int.natCast_sub hc.1]; rfl
theorem whole_bad : ∀ (cs : List Nat) (n : Int), ¬ AllDigits cs → wholeZ n (cs.map fun (c : Nat) => (c : Int)) = none
  | [], _, h => absurd (fun c hc => nomatch hc) h
  | c :: cs, n, h => by
    show (if (c : Int) < 48 ∨ 57 < (c : Int) then none else wholeZ (n * 10 + (c : Int) - 48) (cs.map _)) = _
    by_cases hc : 48 ≤ c ∧ c ≤ 57
    · rw [if_neg (wz_in hc)]
      exact whole_bad cs _ fun q => h fun d hd => by
        rcases List.mem_cons.mp hd with rfl | hd
        · exact hc
        · exact q d hd
    · rw [if_pos (wz_out hc)]
noncomputable def Tidy (x : List UInt8) : Prop := 95 ∉ x ∧ (∀ c, x.head? = some c → blank c.toNat = false) ∧ (∀ c, x.getLast? = some c → blank c.toNat = false)
theorem take_all {l : List Nat} (h : 0 ∉ l) : l.takeWhile (· != 0) = l := by
  induction l with
  | nil => rfl
  | cons c l ih =>
    rw [List.takeWhile_cons, if_pos (by simp; intro q; exact h (q ▸ .head _)), ih fun q => h (.tail _ q)]
theorem take_less {l : List Nat} (h : 0 ∈ l) : (l.takeWhile (· != 0)).length < l.length := by
  induction l with
  | nil => cases h
  | cons c l ih =>
    rw [List.takeWhile_cons]
    split
    · rename_i q
      simp at q
      rcases List.mem_cons.mp h with e | h
      · exact absurd e.symm q
      · exact Nat.succ_lt_succ (ih h)
    · simp
theorem drop_head {l : List Nat} (h : ∀ c, l.head? = some c → blank c = false) : l.dropWhile blank = l := by
  cases l with
  | nil => rfl
  | cons c l => rw [List.dropWhile_cons, h c rfl]; rfl
noncomputable def bare (x : List UInt8) : List UInt8 := if x.take 1 = [45] ∨ x.take 1 = [43] then x.drop 1 else x
theorem toNat_inj {c : UInt8} {k : UInt8} (h : c.toNat = k.toNat) : c = k := UInt8.toNat_inj.mp h
theorem sign_map (x : List UInt8) : sign (x.map (·.toNat)) = (decide (x.take 1 = [45]), (bare x).map (·.toNat)) := by
  cases x with
  | nil => rfl
  | cons c l =>
    by_cases h1 : c = 45
    · subst h1; rfl
    · by_cases h2 : c = 43
      · subst h2; rfl
      · have n1 : c.toNat ≠ 45 := fun q => h1 (toNat_inj q)
        have n2 : c.toNat ≠ 43 := fun q => h2 (toNat_inj q)
        unfold bare
        rw [List.map_cons, sign_of n1 n2]
        simp [h1, h2]
theorem bare_mem {x : List UInt8} {c : UInt8} (h : c ∈ bare x) : c ∈ x := by
  unfold bare at h
  split at h
  · exact List.mem_of_mem_drop h
  · exact h
theorem bare_last {x : List UInt8} {c : UInt8} (h : (bare x).getLast? = some c) : x.getLast? = some c := by
  unfold bare at h
  split at h
  · cases x with
    | nil => cases h
    | cons d l =>
      simp only [List.drop_succ_cons, List.drop_zero] at h
      cases l with
      | nil => cases h
      | cons e l => rw [List.getLast?_cons_cons]; exact h
  · exact h
theorem wholeF_bare (x : List UInt8) : wholeF x = if bare x = [] then none else (wholeZ 0 ((bare x).map fun c => (c.toNat : Int))).map fun n => if x.take 1 = [45] then -n else n := rfl
theorem int_whole {x : List UInt8} (h : Tidy x) : IR.intB x = wholeF x := by
  obtain ⟨h95, hh, hl⟩ := h
  have h95' : 95 ∉ (bare x).map (·.toNat) := fun q => by
    obtain ⟨c, hc, e⟩ := List.mem_map.mp q
    exact h95 (by have : c = 95 := toNat_inj e; exact this ▸ bare_mem hc)
  have hmap : (bare x).map (fun c => (c.toNat : Int)) = ((bare x).map (·.toNat)).map fun (c : Nat) => (c : Int) := by rw [List.map_map]; rfl
  rw [wholeF_bare, hmap]
  by_cases h0 : 0 ∈ x.map (·.toNat)
  · have e1 : IR.intB x = none := by
      unfold IR.intB IR.seenB
      rw [if_neg (by have := take_less h0; simp only [beq_iff_eq]; (first | lia | omega))]
    have hb : ¬ AllDigits ((bare x).map (·.toNat)) := fun q => by
      have hx : (0 : Nat) ∈ (bare x).map (·.toNat) := by
        obtain ⟨c, hc, e⟩ := List.mem_map.mp h0
        refine List.mem_map.mpr ⟨c, ?_, e⟩
        unfold bare
        split
        · rename_i hs
          cases x with
          | nil => cases hc
          | cons d l =>
            simp only [List.drop_succ_cons, List.drop_zero]
            rcases List.mem_cons.mp hc with rfl | hc
            · rcases hs with hs | hs <;> (simp at hs; subst hs; cases e)
            · exact hc
        · exact hc
      have := q 0 hx; (first | lia | omega)
    rw [e1, whole_bad _ _ hb]
    split <;> rfl
  · have e1 : IR.seenB x = x.map (·.toNat) := take_all h0
    have e2 : (x.map (·.toNat)).dropWhile blank = x.map (·.toNat) := drop_head fun c hc => by
      cases x with
      | nil => cases hc
      | cons d l => simp at hc; subst hc; exact hh d rfl
    have e3 : core (x.map (·.toNat)) = (bare x).map (·.toNat) := by
      unfold core
      rw [e2, sign_map]
      dsimp only
      rw [drop_head (fun c hc => ?_), List.reverse_reverse]
      rw [List.head?_reverse, List.getLast?_map] at hc
      cases hg : (bare x).getLast? with
      | none => rw [hg] at hc; cases hc
      | some d => rw [hg] at hc; simp at hc; subst hc; exact hl d (bare_last hg)
    unfold IR.intB
    rw [e1, if_pos (by simp), e3, e2, sign_map]
    dsimp only
    by_cases hd : AllDigits ((bare x).map (·.toNat))
    · by_cases hne : bare x = []
      · rw [if_pos hne, hne]; rfl
      · rw [if_neg hne, digits_of hd (by simpa using hne)]
        have := whole_digits _ 0 hd
        rw [show ((0 : Nat) : Int) = 0 from rfl] at this
        rw [this]
        simp only [Option.map_some, worth, push_foldl]
        by_cases hs : x.take 1 = [45] <;> simp [hs]
    · rw [digits_none h95' hd, whole_bad _ _ hd]
      split <;> rfl
end PA
end
section
open _root_.PySem _root_.PySem.W _root_.PySem.NumText
noncomputable def wt : Nat → Int
  | 0 => 60
  | 1 => 600
  | 2 => 3600
  | n + 3 => wt (n + 2) * 10
noncomputable def readZ : Nat → Int → List Int → Option Int
  | _, s, [] => some s
  | i, s, c :: l => if c - 48 < 0 ∨ 9 < c - 48 then none else readZ (i + 1) (s + (c - 48) * wt i) l
noncomputable abbrev figs (y : List UInt8) : List Int := (y.map fun c => (c.toNat : Int)).reverse
noncomputable def zrF (x : List UInt8) : Option (Int × Bool) :=
  if x.take 1 = [45] ∨ x.take 1 = [43] then
    if PA.bare (x.drop 1) = [] then none else
      (readZ 0 0 (figs (PA.bare (x.drop 1)))).map fun s =>
        let west := decide (x.take 1 = [45]) != decide ((x.drop 1).take 1 = [45])
        (if west then -s else s, decide (x.take 1 = [45]) && (decide (s = 0) || !west))
  else none
namespace PA
noncomputable def valR : List Nat → Nat
  | [] => 0
  | c :: l => (c - 48) + 10 * valR l
theorem valR_app : ∀ (l : List Nat) (c : Nat), valR (l ++ [c]) = valR l + 10 ^ l.length * (c - 48)
  | [], c => by simp [valR]
  | d :: l, c => by
    show (d - 48) + 10 * valR (l ++ [c]) = (d - 48) + 10 * valR l + 10 ^ (l.length + 1) * (c - 48)
    rw [valR_app l c, Nat.pow_succ, Nat.mul_add]
    rw [Nat.mul_comm (10 ^ l.length) 10, Nat.mul_assoc]
    lia
theorem val_rev : ∀ (l : List Nat) (n : Nat), l.foldl (fun acc c => acc * 10 + (c - 48)) n = n * 10 ^ l.length + valR l.reverse
  | [], n => by simp [valR]
  | c :: l, n => by
    rw [List.foldl_cons, val_rev l, List.reverse_cons, valR_app, List.length_reverse, List.length_cons, Nat.pow_succ]
    rw [Nat.add_mul, Nat.mul_assoc, Nat.mul_comm 10 (10 ^ l.length), Nat.mul_comm (c - 48)]
    lia
theorem dgi {c : Nat} (h : 48 ≤ c ∧ c ≤ 57) : ¬ ((c : Int) - 48 < 0 ∨ 9 < (c : Int) - 48) := by omega
theorem dgs {c : Nat} (h : 48 ≤ c ∧ c ≤ 57) : (c : Int) - 48 = ((c - 48 : Nat) : Int) := (Int.natCast_sub h.1).symm
theorem dg9 {c : Nat} (h : 48 ≤ c ∧ c ≤ 57) : c - 48 ≤ 9 := Nat.sub_le_sub_right h.2 48
theorem ra1 {a : Nat} (h : a ≤ 9) : a / 100 * 3600 + a % 100 * 60 = a * 60 := by
  rw [Nat.div_eq_of_lt (Nat.lt_of_le_of_lt h (by decide)), Nat.mod_eq_of_lt (Nat.lt_of_le_of_lt h (by decide)), Nat.zero_mul, Nat.zero_add]
theorem ra2 {a b : Nat} (V : Nat) (ha : a ≤ 9) (hb : b ≤ 9) : (a + 10 * (b + 10 * V)) / 100 * 3600 + (a + 10 * (b + 10 * V)) % 100 * 60 = a * 60 + b * 600 + 3600 * V := by
  have h : a + 10 * b < 100 := Nat.lt_of_le_of_lt (Nat.add_le_add ha (Nat.mul_le_mul_left 10 hb)) (by decide)
  rw [show a + 10 * (b + 10 * V) = (a + 10 * b) + 100 * V by rw [Nat.mul_add, ← Nat.mul_assoc, Nat.add_assoc], Nat.add_mul_div_left _ _ (by decide), Nat.add_mul_mod_self_left, Nat.div_eq_of_lt h, Nat.mod_eq_of_lt h, Nat.zero_add, Nat.add_mul, Nat.mul_comm 10 b, Nat.mul_assoc b, Nat.mul_comm V, Nat.add_comm]
theorem wt_step (i : Nat) : wt (i + 3) = wt (i + 2) * 10 := rfl
theorem read_far : ∀ (l : List Nat) (i : Nat) (s : Int), AllDigits l → readZ (i + 2) s (l.map fun (c : Nat) => (c : Int)) = some (s + wt (i + 2) * (valR l : Int))
  | [], i, s, _ => by simp [readZ, valR]
  | c :: l, i, s, h => by
    have hc := h.head
    show (if (c : Int) - 48 < 0 ∨ 9 < (c : Int) - 48 then none else readZ (i + 1 + 2) (s + ((c : Int) - 48) * wt (i + 2)) (l.map _)) = _
    rw [if_neg (dgi hc), read_far l (i + 1) _ h.tail]
    rw [show i + 1 + 2 = i + 3 from rfl, wt_step]
    congr 1
    show _ = s + wt (i + 2) * ((((c - 48) + 10 * valR l : Nat)) : Int)
    rw [show (((c - 48) + 10 * valR l : Nat) : Int) = ((c : Int) - 48) + 10 * (valR l : Int) by rw [dgs hc]; rfl]
    rw [Int.mul_add, Int.mul_assoc, Int.mul_comm ((c : Int) - 48), Int.add_assoc]
theorem read_all {l : List Nat} (h : AllDigits l) : readZ 0 0 (l.map fun (c : Nat) => (c : Int)) = some (((valR l / 100 * 3600 + valR l % 100 * 60 : Nat)) : Int) := by
  cases l with
  | nil => rfl
  | cons c l =>
    have hc := h.head
    show (if (c : Int) - 48 < 0 ∨ 9 < (c : Int) - 48 then none else readZ 1 (0 + ((c : Int) - 48) * 60) (l.map _)) = _
    rw [if_neg (dgi hc), dgs hc]
    cases l with
    | nil =>
      show some _ = some _
      congr 1
      have : valR [c] = c - 48 := by simp [valR]
      rw [this, ra1 (dg9 hc), Int.zero_add]; rfl
    | cons d l =>
      have hd := h.tail.head
      show (if (d : Int) - 48 < 0 ∨ 9 < (d : Int) - 48 then none else readZ 2 (0 + ((c - 48 : Nat) : Int) * 60 + ((d : Int) - 48) * 600) (l.map _)) = _
      rw [if_neg (dgi hd), dgs hd, read_far l 0 _ h.tail.tail]
      congr 1
      have : valR (c :: d :: l) = (c - 48) + 10 * ((d - 48) + 10 * valR l) := rfl
      rw [this, show wt (0 + 2) = 3600 from rfl, ra2 _ (dg9 hc) (dg9 hd), Int.zero_add]; rfl
theorem read_bad : ∀ (l : List Nat) (i : Nat) (s : Int), ¬ AllDigits l → readZ i s (l.map fun (c : Nat) => (c : Int)) = none
  | [], _, _, h => absurd (fun c hc => nomatch hc) h
  | c :: l, i, s, h => by
    show (if (c : Int) - 48 < 0 ∨ 9 < (c : Int) - 48 then none else readZ (i + 1) _ (l.map _)) = _
    by_cases hc : 48 ≤ c ∧ c ≤ 57
    · rw [if_neg (dgi hc)]
      exact read_bad l _ _ fun q => h fun d hd => by
        rcases List.mem_cons.mp hd with rfl | hd
        · exact hc
        · exact q d hd
    · rw [if_pos (by omega)]
theorem pz_sum {x : List UInt8} {N : Nat} (neg : Bool) : pzF x (if neg then -(N : Int) else (N : Int)) =
    (if (decide (x.take 1 = [45]) != neg) then -((N / 100 * 3600 + N % 100 * 60 : Nat) : Int) else ((N / 100 * 3600 + N % 100 * 60 : Nat) : Int), decide (x.take 1 = [45]) && (decide (((N / 100 * 3600 + N % 100 * 60 : Nat) : Int) = 0) || !(decide (x.take 1 = [45]) != neg))) := by
  have hdiv : ((N : Nat) : Int).fdiv 100 = ((N / 100 : Nat) : Int) := by
    rw [Int.fdiv_eq_ediv_of_nonneg _ (by decide)]; rfl
  have hmod : ((N : Nat) : Int).fmod 100 = ((N % 100 : Nat) : Int) := by
    rw [Int.fmod_eq_emod_of_nonneg _ (by decide)]; rfl
  have hs0 : (((N / 100 * 3600 + N % 100 * 60 : Nat) : Int) = 0) ↔ N = 0 := by
    constructor
    · intro h; omega
    · intro h; subst h; rfl
  have core : ∀ o : Int, (o = (N : Int) ∨ o = -(N : Int)) → ((if o < 0 then (-1 : Int) else 1) * ((if o < 0 then -o else o).fdiv 100 * 3600 + (if o < 0 then -o else o).fmod 100 * 60)) =
      (if o < 0 then -((N / 100 * 3600 + N % 100 * 60 : Nat) : Int) else ((N / 100 * 3600 + N % 100 * 60 : Nat) : Int)) := by
    intro o ho
    have ha : (if o < 0 then -o else o) = (N : Int) := by split <;> lia
    rw [ha, hdiv, hmod]
    split <;> lia
  unfold pzF
  dsimp only
  rw [core _ (by split <;> cases neg <;> simp)]
  have hz := Nat.eq_zero_or_pos N
  by_cases hs : x.take 1 = [45] <;> cases neg <;> rcases hz with h0 | h0
  all_goals first
    | (subst h0; simp [hs]; done)
    | (have h1 : ¬ N = 0 := Nat.ne_of_gt h0
       have h2 : ((N / 100 * 3600 + N % 100 * 60 : Nat) : Int) ≠ 0 := fun q => h1 (hs0.mp q)
       have h3 : ¬ (N : Int) < 0 := Int.not_lt.mpr (Int.natCast_nonneg _)
       have h4 : -(N : Int) < 0 := Int.neg_neg_of_pos (Int.ofNat_lt.mpr h0)
       have h5 : (0 : Int) ≤ (N : Int) := Int.natCast_nonneg _
       have h6 : ¬ (0 : Int) ≤ -(N : Int) := Int.not_le.mpr h4
       simp [hs, h2, h3, h4, h5, h6, h0]
       try omega)
theorem figs_map (y : List UInt8) : figs y = ((y.map (·.toNat)).reverse).map fun (c : Nat) => (c : Int) := by
  unfold figs
  rw [← List.map_reverse, ← List.map_reverse, List.map_map]; rfl
theorem zone_same {x : List UInt8} (h : Tidy (x.drop 1)) : tzF x = zrF x := by
  unfold tzF zrF
  cases x with
  | nil => rfl
  | cons c l =>
    have hc : ((c :: l).getD 0 0 ∈ ([43, 45] : List UInt8)) ↔ ((c :: l).take 1 = [45] ∨ (c :: l).take 1 = [43]) := by
      simp only [List.getD_cons_zero, List.mem_cons, List.not_mem_nil, or_false, List.take_succ_cons, List.take_zero, List.cons.injEq, and_true]
      exact Or.comm
    by_cases hg : (c :: l).take 1 = [45] ∨ (c :: l).take 1 = [43]
    · rw [if_pos (hc.mpr hg), if_pos hg, int_whole h, wholeF_bare]
      generalize (c :: l).drop 1 = y
      by_cases hb : bare y = []
      · rw [if_pos hb, if_pos hb]; rfl
      · rw [if_neg hb, if_neg hb, figs_map]
        have hmap : (bare y).map (fun c => (c.toNat : Int)) = ((bare y).map (·.toNat)).map fun (c : Nat) => (c : Int) := by rw [List.map_map]; rfl
        rw [hmap]
        by_cases hd : AllDigits ((bare y).map (·.toNat))
        · rw [read_all hd.reverse]
          have := whole_digits _ 0 hd
          rw [show ((0 : Nat) : Int) = 0 from rfl] at this
          rw [this, val_rev]
          simp only [Nat.zero_mul, Nat.zero_add, Option.map_some]
          congr 1
          have := pz_sum (x := c :: l) (N := valR ((bare y).map (·.toNat)).reverse) (decide (y.take 1 = [45]))
          rw [← this]
          congr 1
          by_cases hs : y.take 1 = [45] <;> simp [hs]
        · rw [whole_bad _ _ hd, read_bad _ _ _ (fun q => hd (by have := q.reverse; rwa [List.reverse_reverse] at this))]
          rfl
    · rw [if_neg (fun q => hg (hc.mp q)), if_neg hg]
end PA
end
section
open _root_.PySem _root_.PySem.W _root_.PySem.NumText
noncomputable def decF : Nat → Nat → List UInt8
  | 0, _ => []
  | f + 1, n => if n < 10 then [(48 + n).toUInt8] else decF f (n / 10) ++ [(48 + n % 10).toUInt8]
theorem d10 {n : Nat} (h : ¬ n < 10) : n / 10 < n := Nat.div_lt_self (Nat.lt_of_lt_of_le (by decide) (Nat.not_lt.mp h)) (by decide)
theorem m10 (n : Nat) : n % 10 < 10 := Nat.mod_lt n (by decide)
theorem decF_more : ∀ {f g n : Nat}, n < f → n < g → decF f n = decF g n
  | f + 1, g + 1, n, hf, hg => by
    by_cases h : n < 10
    · exact (if_pos h).trans (if_pos h).symm
    · refine (if_neg h).trans (.trans ?_ (if_neg h).symm)
      rw [decF_more (f := f) (g := g) (n := n / 10) (Nat.lt_of_lt_of_le (d10 h) (Nat.le_of_lt_succ hf)) (Nat.lt_of_lt_of_le (d10 h) (Nat.le_of_lt_succ hg))]
@[irreducible] noncomputable def decN (n : Nat) : List UInt8 := decF (n + 1) n
noncomputable def decI (n : Int) : List UInt8 := if n < 0 then 45 :: decN n.natAbs else decN n.natAbs
noncomputable def pad2 (n : Nat) : List UInt8 := if n < 10 then 48 :: decN n else decN n
namespace PD
theorem dec_lt {n : Nat} (h : n < 10) : decN n = [(48 + n).toUInt8] := by unfold decN; exact if_pos h
theorem dec_ge {n : Nat} (h : ¬ n < 10) : decN n = decN (n / 10) ++ [(48 + n % 10).toUInt8] := by
  unfold decN; exact (if_neg h).trans (by rw [decF_more (f := n) (g := n / 10 + 1) (d10 h) (Nat.lt_succ_self _)])
theorem digit_nat {d : Nat} (h : d < 10) : ((48 + d).toUInt8).toNat = 48 + d := by
  exact Nat.mod_eq_of_lt (Nat.lt_of_lt_of_le (Nat.add_lt_add_left h 48) (by decide))
theorem d48 {d : Nat} (h : d < 10) : 48 ≤ 48 + d ∧ 48 + d ≤ 57 := ⟨Nat.le_add_right _ _, Nat.add_le_add_left (Nat.le_of_lt_succ h) 48⟩
theorem dec_digits (n : Nat) : AllDigits ((decN n).map (·.toNat)) := by
  induction n using Nat.strongRecOn with
  | _ n ih =>
    intro c hc
    by_cases h : n < 10
    · rw [dec_lt h] at hc
      simp only [List.map_cons, List.map_nil, List.mem_singleton] at hc
      rw [hc, digit_nat h]; exact d48 h
    · rw [dec_ge h, List.map_append] at hc
      rcases List.mem_append.mp hc with hc | hc
      · exact ih (n / 10) (d10 h) c hc
      · simp only [List.map_cons, List.map_nil, List.mem_singleton] at hc
        rw [hc, digit_nat (m10 n)]; exact d48 (m10 n)
theorem dec_val (n : Nat) : ((decN n).map (·.toNat)).foldl (fun acc c => acc * 10 + (c - 48)) 0 = n := by
  induction n using Nat.strongRecOn with
  | _ n ih =>
    by_cases h : n < 10
    · rw [dec_lt h]
      simp only [List.map_cons, List.map_nil, List.foldl_cons, List.foldl_nil]
      rw [digit_nat h, Nat.zero_mul, Nat.zero_add, Nat.add_sub_cancel_left]
    · rw [dec_ge h, List.map_append, List.foldl_append, ih (n / 10) (d10 h)]
      simp only [List.map_cons, List.map_nil, List.foldl_cons, List.foldl_nil]
      rw [digit_nat (m10 n), Nat.add_sub_cancel_left, Nat.mul_comm]; exact Nat.div_add_mod n 10
theorem dec_ne (n : Nat) : decN n ≠ [] := by
  by_cases h : n < 10
  · rw [dec_lt h]; simp
  · rw [dec_ge h]; simp
theorem dec_len : ∀ (k n : Nat), 0 < k → n < 10 ^ k → (decN n).length ≤ k
  | 0, _, h, _ => absurd h (Nat.lt_irrefl _)
  | k + 1, n, _, h => by
    by_cases h1 : n < 10
    · rw [dec_lt h1]; simp
    · rw [dec_ge h1, List.length_append, List.length_singleton]
      have hk : 0 < k := by
        cases k with
        | zero => rw [Nat.pow_one] at h; exact absurd h h1
        | succ k => exact Nat.succ_pos _
      have := dec_len k (n / 10) hk (Nat.div_lt_of_lt_mul (Nat.pow_succ' (m := 10) ▸ h))
      exact Nat.succ_le_succ this
theorem toDigits_dec (n : Nat) : (Nat.toDigits 10 n).map (fun c => c.toNat.toUInt8) = decN n := by
  induction n using Nat.strongRecOn with
  | _ n ih =>
    by_cases h : n < 10
    · rw [dec_lt h, Nat.toDigits_of_lt_base h, digitChar_of _ h]
      have : ∀ d : Nat, d < 10 → [Char.ofNat (48 + d)].map (fun c => c.toNat.toUInt8) = [(48 + d).toUInt8] := by decide
      exact this n h
    · have e : n = 10 * (n / 10) + n % 10 := (Nat.div_add_mod n 10).symm
      have ed : Nat.toDigits 10 n = Nat.toDigits 10 (n / 10) ++ Nat.toDigits 10 (n % 10) := by
        have := Nat.toDigits_append_toDigits (b := 10) (n := n / 10) (d := n % 10) (by decide) (Nat.div_pos (Nat.not_lt.mp h) (by decide)) (m10 n)
        rw [this, ← e]
      rw [ed, List.map_append, ih (n / 10) (d10 h), dec_ge h, Nat.toDigits_of_lt_base (m10 n), digitChar_of _ (m10 n)]
      have : ∀ d : Nat, d < 10 → [Char.ofNat (48 + d)].map (fun c => c.toNat.toUInt8) = [(48 + d).toUInt8] := by decide
      rw [this (n % 10) (m10 n)]
theorem octs_of (x : String) : BE.octs (Str.ofString x) = x.toList.map (fun c => c.toNat.toUInt8) := by
  unfold BE.octs
  rw [PyProof.Rows.signs_ofString, List.map_map]; rfl
theorem octs_int (n : Int) : BE.octs (Str.ofString (toString n)) = decI n := by
  rw [octs_of]
  cases n with
  | ofNat k =>
    show (toString k).toList.map _ = decI (k : Int)
    unfold decI
    rw [if_neg (Int.not_lt.mpr (Int.natCast_nonneg k))]
    show (Nat.repr k).toList.map _ = decN k
    rw [← toDigits_dec]
    simp [Nat.repr]
  | negSucc k =>
    show ("-" ++ Nat.repr (k + 1)).toList.map _ = decI (Int.negSucc k)
    unfold decI
    rw [if_pos (Int.negSucc_lt_zero k)]
    rw [← toDigits_dec]
    simp [Nat.repr]
end PD
end
section
open _root_.PySem _root_.PySem.W _root_.PySem.Spec _root_.PySem.Calls _root_.PyProof.Rows _root_.PySem.Builtin
namespace BF
theorem cps_fmt : (PySem.Str.ofString "%s%02d%02d").cps.toList = [37, 115, 37, 48, 50, 100, 37, 48, 50, 100] := by decide +kernel
noncomputable def two (n : Int) : List Nat := if (PySem.Str.ofString (toString n)).cps.toList.length < 2 then 48 :: (PySem.Str.ofString (toString n)).cps.toList else (PySem.Str.ofString (toString n)).cps.toList
theorem neg_text {n : Int} (h : n < 0) : (PySem.Str.ofString (toString n)).cps.toList = 45 :: (PySem.Str.ofString (toString ((n.natAbs : Nat) : Int))).cps.toList := by
  rw [signs_ofString, signs_ofString]
  cases n with
  | ofNat k => exact absurd h (Int.not_lt.mpr (Int.natCast_nonneg k))
  | negSucc k =>
    show ("-" ++ Nat.repr (k + 1)).toList.map Char.toNat = 45 :: (Nat.repr (k + 1)).toList.map Char.toNat
    rw [String.toList_append, List.map_append]; rfl
theorem pos_text {n : Int} (h : ¬ n < 0) : (PySem.Str.ofString (toString ((n.natAbs : Nat) : Int))).cps.toList = (PySem.Str.ofString (toString n)).cps.toList := by
  rw [Int.natAbs_of_nonneg (by omega)]
theorem nat_ne (k : Nat) : (PySem.Str.ofString (toString ((k : Nat) : Int))).cps.toList ≠ [] := by
  rw [signs_ofString]
  show (Nat.repr k).toList.map Char.toNat ≠ []
  simp [Nat.repr, Nat.toDigits_ne_nil]
theorem nat_digit (k : Nat) : ∀ c ∈ (PySem.Str.ofString (toString ((k : Nat) : Int))).cps.toList, c ≠ 45 ∧ c ≠ 43 := by
  rw [signs_ofString]
  show ∀ c ∈ (Nat.repr k).toList.map Char.toNat, _
  intro c hc
  obtain ⟨ch, h1, rfl⟩ := List.mem_map.mp hc
  have h2 : ch ∈ Nat.toDigits 10 k := by simpa [Nat.repr] using h1
  have h3 := Nat.isDigit_of_mem_toDigits (by decide) (by decide) h2
  constructor
  · intro q
    have : ch = '-' := Char.toNat_inj.mp (by rw [q]; rfl)
    subst this; exact absurd h3 (by decide)
  · intro q
    have : ch = '+' := Char.toNat_inj.mp (by rw [q]; rfl)
    subst this; exact absurd h3 (by decide)
theorem int_text {c : Str.Percent} {n : Int} (a1 : c.alt = false) (a2 : c.type = 100) (a3 : c.prec = none) :
    Str.percentInt c (decide (n < 0)) (PySem.Str.ofString (toString ((n.natAbs : Nat) : Int))).cps.toList = (PySem.Str.ofString (toString n)).cps.toList := by
  unfold Str.percentInt
  by_cases h : n < 0
  · rw [neg_text h]; simp [a1, a2, a3, h]
  · rw [← pos_text h]; simp [a1, a2, a3, h]
theorem field {c : Str.Percent} {n : Int} (a1 : c.alt = false) (a2 : c.type = 100) (a3 : c.prec = none) (a4 : c.sign = false) (a5 : c.blank = false) (a6 : c.ljust = false) (a7 : c.zero = true) (a8 : c.width = some 2) :
    Str.percentField c true (PySem.Str.ofString (toString n)).cps.toList = if (PySem.Str.ofString (toString n)).cps.toList.length < 2 then some (48 :: (PySem.Str.ofString (toString n)).cps.toList) else none := by
  unfold Str.percentField
  by_cases h : (PySem.Str.ofString (toString n)).cps.toList.length < 2
  · rw [if_pos h]
    have hn : ¬ n < 0 := fun q => by
      rw [neg_text q] at h
      have := nat_ne n.natAbs
      cases hl : (PySem.Str.ofString (toString ((n.natAbs : Nat) : Int))).cps.toList with
      | nil => exact this hl
      | cons c l => rw [hl] at h; simp at h; lia
    have hd := nat_digit n.natAbs
    have hne := nat_ne n.natAbs
    rw [pos_text hn] at hd hne
    generalize (PySem.Str.ofString (toString n)).cps.toList = l at *
    match l, h, hd, hne with
    | [x], _, hd, _ =>
      have := hd x (.head _)
      have n1 := this.1
      have n2 := this.2
      simp only [a1, a2, a3, a4, a5, a6, a7, a8]
      simp
      split
      · rename_i q; simp at q; exact absurd q.1 n1
      · rename_i q; simp at q; exact absurd q.1 n2
      · simp
    | [], _, _, hne => exact absurd rfl hne
  · rw [if_neg h, if_pos]
    generalize (PySem.Str.ofString (toString n)).cps.toList = l at *
    simp only [a3, a4, a5, a8]
    simp; omega
theorem log_lt {n : Nat} (h : n < 10 ^ 62) : n.log2 < 1920 := by
  by_cases h0 : n = 0
  · subst h0; decide
  · exact (Nat.log2_lt h0).mpr (Nat.lt_of_lt_of_le h (by decide +kernel))
theorem octs_len (x : PySem.Str) : (BE.octs x).length = x.cps.toList.length := by unfold BE.octs; simp
theorem int_len {n : Int} (h : n.natAbs < 10 ^ 62) : (PySem.Str.ofString (toString n)).cps.toList.length ≤ 63 := by
  rw [← octs_len, PD.octs_int]
  have := PD.dec_len 62 n.natAbs (by decide) h
  unfold decI
  split
  · simp; omega
  · lia
theorem two_len {n : Int} (h : n.natAbs < 10 ^ 62) : (PySem.Str.mk (two n).toArray).length ≤ 72 := by
  show (two n).toArray.size ≤ 72
  rw [List.size_toArray]
  have := int_len h
  unfold two
  split
  · simp only [List.length_cons]; omega
  · omega
theorem octs_app (x y : PySem.Str) : BE.octs (x ++ y) = BE.octs x ++ BE.octs y := by
  unfold BE.octs; rw [PyProof.Rows.cps_toList_append, List.map_append]
theorem octs_two (n : Int) : BE.octs ⟨(two n).toArray⟩ = if n < 0 then 45 :: decN n.natAbs else pad2 n.natAbs := by
  have e := PD.octs_int n
  have e2 : BE.octs ⟨(two n).toArray⟩ = (two n).map (·.toUInt8) := by unfold BE.octs; simp
  have e3 := octs_len (PySem.Str.ofString (toString n))
  rw [e] at e3
  have e4 : (PySem.Str.ofString (toString n)).cps.toList.map (·.toUInt8) = decI n := e
  rw [e2]
  unfold two
  rw [← e3]
  by_cases h : n < 0
  · have hd : decI n = 45 :: decN n.natAbs := if_pos h
    have hne : (decN n.natAbs).length ≠ 0 := fun q => PD.dec_ne _ (List.eq_nil_of_length_eq_zero q)
    rw [if_pos h, if_neg (by rw [hd]; simp only [List.length_cons]; lia), e4, hd]
  · have hd : decI n = decN n.natAbs := if_neg h
    rw [if_neg h, hd]
    unfold pad2
    by_cases h1 : n.natAbs < 10
    · rw [if_pos h1, if_pos (by rw [PD.dec_lt h1]; exact Nat.lt_succ_self 1)]
      show (48 : Nat).toUInt8 :: List.map _ _ = _
      rw [e4, hd]; rfl
    · have hl : ¬ (decN n.natAbs).length < 2 := by
        rw [PD.dec_ge h1, List.length_append]
        have := PD.dec_ne (n.natAbs / 10)
        have : (decN (n.natAbs / 10)).length ≠ 0 := fun q => this (List.eq_nil_of_length_eq_zero q)
        simp only [List.length_singleton]; lia
      rw [if_neg h1, if_neg hl, e4, hd]
theorem lay {M : Model} {A : Around} {E : Value → Shared → Prop} {s : Shared} {c : Str.Percent} {n : Int} {w : Str.Writer} {T : PySem.Str} {N : Nat} {p : List Value} {r : List Nat} {o : Option Value}
    {Q : ForInStep (List Value × Str.Writer × List Nat) → Shared → Prop}
    (a1 : c.alt = false) (a2 : c.type = 100) (a3 : c.prec = none) (a4 : c.sign = false) (a5 : c.blank = false) (a6 : c.ljust = false) (a7 : c.zero = true) (a8 : c.width = some 2)
    (g : KPc.Good w T N) (ho : o = none) (hb : n.natAbs < 10 ^ 62) (h : ∀ w', KPc.Good w' (T ++ ⟨(two n).toArray⟩) (N + 72) → Q (.yield (p, w', r)) s) :
    wpAny M A (match Str.percentField c true (Str.percentInt c (decide (n < 0)) (PySem.Str.ofString (toString ((n.natAbs : Nat) : Int))).cps.toList) with
      | none => pure (ForInStep.yield (p, w.add ⟨(Str.percentInt c (decide (n < 0)) (PySem.Str.ofString (toString ((n.natAbs : Nat) : Int))).cps.toList).toArray⟩ o, r))
      | some laid => pure (ForInStep.yield (p, w.add ⟨laid.toArray⟩, r))) Q E s := by
  rw [int_text a1 a2 a3, field a1 a2 a3 a4 a5 a6 a7 a8]
  have hl := two_len hb
  by_cases q : (PySem.Str.ofString (toString n)).cps.toList.length < 2
  · have e : two n = 48 :: (PySem.Str.ofString (toString n)).cps.toList := if_pos q
    rw [if_pos q]
    refine wpAny_pure (h _ ?_)
    rw [← e]
    exact KPc.good_mono (KPc.good_add g (KPc.obj_none rfl)) (by omega)
  · have e : two n = (PySem.Str.ofString (toString n)).cps.toList := if_neg q
    rw [if_neg q]
    refine wpAny_pure (h _ ?_)
    rw [← e]
    exact KPc.good_mono (KPc.good_add g (KPc.obj_none ho)) (by omega)
set_option maxHeartbeats 1000000 in
theorem fmt_meets (S T : PySem.Str) (hr mn : Int) {t u1 u2 u3 : Tok} {b : Addr} (hS : S.length ≤ 1) (h1 : hr.natAbs < 10 ^ 62) (h2 : mn.natAbs < 10 ^ 62) (hT : S ++ ⟨(two hr).toArray⟩ ++ ⟨(two mn).toArray⟩ = T) :
    Meets («str.__mod__» ⟨[.str ⟨[37, 115, 37, 48, 50, 100, 37, 48, 50, 100].toArray⟩ t, .ref b], []⟩) (fun _ R s => IsTup s.heap b #[.str S u1, .int hr u2, .int mn u3] ∧ ∀ t' k, R (.ok (.ret (.str T t'))) { s with toks := k }) := by
  have g1 : hr.natAbs.log2 < 1920 := log_lt h1
  have g2 : mn.natAbs.log2 < 1920 := log_lt h2
  apply KPt.meets_tup
  intro _ _ _ _ _ _ kptH _
  obtain ⟨kptO, kptG, kptC, kptN, kptD⟩ := kptH
  rw [KPt.entry_is_r]
  unfold Builtin.Str.percentFormat
  refine wpAny_bind (wpAny_isInstance (T := "tuple") ⟨kptO, kptG, kptC⟩ KPt.sub_tt ?_)
  refine wpAny_bind (KPt.asStr_ref kptG kptD ?_)
  refine wpAny_bind (KPt.fills_ref ⟨kptO, kptG, kptC⟩ ?_)
  intro _
  kpc_if
  refine wpAny_bind (wpAny_seqItems kptG kptD ?_)
  refine wpAny_bind (wpAny_pure ?_)
  refine wpAny_bind ?_
  rw [KPc.range_list]
  refine KPc.start ?_
  intro _ _
  refine KPc.turn ?_; kpc_check
  refine wpAny_bind (m := holding _ _) ?_; refine wpAny_holding ?_; (repeat kpc_if); kpt_conv; refine wpAny_pure ?_; refine wpAny_pure ?_
  refine KPc.after_str0 (by kpc_g) hS (by kpc_obj) ?_
  intro _ _
  refine KPc.turn ?_; kpc_check; (repeat kpc_if)
  refine wpAny_bind ?_; refine wpAny_holding ?_; (repeat kpc_if)
  refine wpAny_bind (wpAny_of_eq (a := hr) rfl ?_)
  (repeat kpc_if)
  refine wpAny_bind (wpAny_mkInt ?_)
  refine wpAny_bind (call_gives F.slot_int_repr (typeIs_int _ _ _) F.entry_int_repr (F.args_int_repr_1 _) (gives_int_repr _ _ (KPt.hd2 g1)) ⟨int_text_fits (KPt.hd2 g1), ?_⟩)
  refine wpAny_bind (wpAny_of_eq (a := some _) rfl ?_)
  refine wpAny_pure ?_
  refine' lay ?a1 ?a2 ?a3 ?a4 ?a5 ?a6 ?a7 ?a8 ?yg ?yo ?yb ?_
  case a1 => rfl
  case a2 => rfl
  case a3 => rfl
  case a4 => rfl
  case a5 => rfl
  case a6 => rfl
  case a7 => rfl
  case a8 => rfl
  case yg => assumption
  case yo => rfl
  case yb => exact h1
  intro w' g'
  refine KPc.turn ?_; kpc_check; (repeat kpc_if)
  refine wpAny_bind ?_; refine wpAny_holding ?_; (repeat kpc_if)
  refine wpAny_bind (wpAny_of_eq (a := mn) rfl ?_)
  (repeat kpc_if)
  refine wpAny_bind (wpAny_mkInt ?_)
  refine wpAny_bind (call_gives F.slot_int_repr (typeIs_int _ _ _) F.entry_int_repr (F.args_int_repr_1 _) (gives_int_repr _ _ (KPt.hd2 g2)) ⟨int_text_fits (KPt.hd2 g2), ?_⟩)
  refine wpAny_bind (wpAny_of_eq (a := some _) rfl ?_)
  refine wpAny_pure ?_
  refine' lay ?a1 ?a2 ?a3 ?a4 ?a5 ?a6 ?a7 ?a8 ?yg ?yo ?yb ?_
  case a1 => rfl
  case a2 => rfl
  case a3 => rfl
  case a4 => rfl
  case a5 => rfl
  case a6 => rfl
  case a7 => rfl
  case a8 => rfl
  case yg => assumption
  case yo => rfl
  case yb => exact h2
  intro w' g'
  refine KPc.turn ?_; kpc_check; (repeat kpc_if)
  refine wpAny_pure ?_; kpc_if; refine KPc.finish_ok (by kpc_g) (by decide +kernel) hT ?_
  assumption
theorem ascii_int (n : Int) : ∀ c ∈ (PySem.Str.ofString (toString n)).cps.toList, c < 128 := by
  have hnat : ∀ k : Nat, ∀ c ∈ (PySem.Str.ofString (toString ((k : Nat) : Int))).cps.toList, c < 128 := by
    intro k
    rw [signs_ofString]
    show ∀ c ∈ (Nat.repr k).toList.map Char.toNat, _
    intro c hc
    obtain ⟨ch, h1, rfl⟩ := List.mem_map.mp hc
    have h2 : ch ∈ Nat.toDigits 10 k := by simpa [Nat.repr] using h1
    have h3 := Nat.isDigit_of_mem_toDigits (by decide) (by decide) h2
    have h4 : ch.val ≤ 57 := by
      simp only [Char.isDigit, Bool.and_eq_true, decide_eq_true_eq] at h3
      exact h3.2
    have : ch.toNat ≤ 57 := h4
    omega
  intro c hc
  by_cases h : n < 0
  · rw [neg_text h] at hc
    rcases List.mem_cons.mp hc with rfl | hc
    · decide
    · exact hnat _ c hc
  · rw [← pos_text h] at hc
    exact hnat _ c hc
theorem ascii_two (n : Int) : ∀ c ∈ two n, c < 128 := by
  intro c hc
  unfold two at hc
  split at hc
  · rcases List.mem_cons.mp hc with rfl | hc
    · decide
    · exact ascii_int n c hc
  · exact ascii_int n c hc
theorem ascii_fmt {S : PySem.Str} (hr mn : Int) (hS : ∀ c ∈ S.cps.toList, c < 128) : ∀ c ∈ (S ++ ⟨(two hr).toArray⟩ ++ ⟨(two mn).toArray⟩ : PySem.Str).cps.toList, c < 128 := by
  intro c hc
  rw [PyProof.Rows.cps_toList_append, PyProof.Rows.cps_toList_append] at hc
  rcases List.mem_append.mp hc with hc | hc
  · rcases List.mem_append.mp hc with hc | hc
    · exact hS c hc
    · exact ascii_two hr c hc
  · exact ascii_two mn c hc
theorem size_fmt {S : PySem.Str} {hr mn : Int} (hS : S.length ≤ 1) (h1 : hr.natAbs < 10 ^ 62) (h2 : mn.natAbs < 10 ^ 62) : (S ++ ⟨(two hr).toArray⟩ ++ ⟨(two mn).toArray⟩ : PySem.Str).cps.size ≤ sizeLine := by
  have a1 := two_len h1
  have a2 := two_len h2
  show (S ++ ⟨(two hr).toArray⟩ ++ ⟨(two mn).toArray⟩ : PySem.Str).length ≤ sizeLine
  rw [PySem.Str.length_append, PySem.Str.length_append, sizeLine_eq]
  lia
section
variable {prog : Program} {w : World} {A : Around} {E : Value → Shared → Prop} {s : Shared} {Q : Value → Shared → Prop} {b L : Addr} {h₀ : Heap} {news : List (Addr × Obj)}
theorem fmt_rule {S : PySem.Str} {hr mn : Int} {t u1 u2 u3 : Tok} (N : News h₀ L s.heap news) (hb : (b, ({ cls := .type "tuple", data := .seq #[.str S u1, .int hr u2, .int mn u3] } : Obj)) ∈ news) (hS : S.length ≤ 1) (h1 : hr.natAbs < 10 ^ 62) (h2 : mn.natAbs < 10 ^ 62)
    (h : ∀ t' k, Q (.str (S ++ ⟨(two hr).toArray⟩ ++ ⟨(two mn).toArray⟩) t') { s with toks := k }) : wpAny (model prog w) A (binaryOp .Mod (.str (PySem.Str.ofString "%s%02d%02d") t) (.ref b)) Q E s :=
  KPt.mod_tuple N hb (by decide +kernel) (fmt_meets S _ hr mn hS h1 h2 rfl) h
end
end BF
end
section
open _root_.PySem _root_.PySem.W _root_.PySem.NumText
noncomputable def lzF (s : Int) (minus : Bool) : Option (List UInt8) :=
  if s % 60 ≠ 0 then none else
    some (if minus = true ∧ 0 < s then 45 :: 45 :: (decN (s.natAbs / 3600) ++ pad2 (s.natAbs / 60 % 60))
      else (if minus = true ∨ s < 0 then 45 else 43) :: (pad2 (s.natAbs / 3600) ++ pad2 (s.natAbs / 60 % 60)))
namespace PE
open PA PD
noncomputable abbrev nats (x : List UInt8) : List Nat := x.map (·.toNat)
noncomputable abbrev val (l : List Nat) (n : Nat) : Nat := l.foldl (fun acc c => acc * 10 + (c - 48)) n
theorem pad_digits {n : Nat} : AllDigits (nats (pad2 n)) := by
  unfold pad2
  split
  · intro c hc
    simp only [nats, List.map_cons, List.mem_cons] at hc
    rcases hc with rfl | hc
    · decide
    · exact dec_digits n c hc
  · exact dec_digits n
theorem pad_val {n : Nat} : val (nats (pad2 n)) 0 = n := by
  unfold pad2
  split
  · show val (nats (decN n)) (0 * 10 + (48 - 48)) = n
    exact dec_val n
  · exact dec_val n
theorem pad_two {n : Nat} (h : n < 100) (a : Nat) : val (nats (pad2 n)) a = a * 100 + n := by
  unfold pad2
  split
  · rename_i h1
    rw [dec_lt h1]
    simp only [nats, val, List.map_cons, List.map_nil, List.foldl_cons, List.foldl_nil]
    rw [digit_nat h1]
    show (a * 10 + (48 - 48)) * 10 + (48 + n - 48) = _
    lia
  · rename_i h1
    rw [dec_ge h1, dec_lt (show n / 10 < 10 by omega)]
    simp only [nats, val, List.map_append, List.map_cons, List.map_nil, List.cons_append, List.nil_append, List.foldl_cons, List.foldl_nil]
    rw [digit_nat (show n / 10 < 10 by omega), digit_nat (show n % 10 < 10 by omega)]
    lia
theorem pad_ne (n : Nat) : pad2 n ≠ [] := by
  unfold pad2; split
  · simp
  · exact dec_ne n
theorem digits_app {a b : List Nat} (ha : AllDigits a) (hb : AllDigits b) : AllDigits (a ++ b) := fun c hc => (List.mem_append.mp hc).elim (ha c) (hb c)
theorem bare_digits {D : List UInt8} (h : AllDigits (nats D)) : bare D = D ∧ D.take 1 ≠ [45] ∧ D.take 1 ≠ [43] := by
  cases D with
  | nil => exact ⟨rfl, by simp, by simp⟩
  | cons c l =>
    have hc := h c.toNat (List.mem_map_of_mem (.head _))
    have n1 : c ≠ 45 := fun q => by subst q; exact absurd hc (by decide)
    have n2 : c ≠ 43 := fun q => by subst q; exact absurd hc (by decide)
    unfold bare
    simp [n1, n2]
theorem read_digits {D : List UInt8} (h : AllDigits (nats D)) : readZ 0 0 (figs D) = some ((val (nats D) 0 / 100 * 3600 + val (nats D) 0 % 100 * 60 : Nat) : Int) := by
  have e : val (nats D) 0 = valR (nats D).reverse := by
    have := val_rev (nats D) 0
    rw [Nat.zero_mul, Nat.zero_add] at this
    exact this
  rw [figs_map, read_all h.reverse, e]
theorem zr_one {c : UInt8} {D : List UInt8} (hc : c = 45 ∨ c = 43) (h : AllDigits (nats D)) (hne : D ≠ []) :
    zrF (c :: D) = some (if c = 45 then -((val (nats D) 0 / 100 * 3600 + val (nats D) 0 % 100 * 60 : Nat) : Int) else ((val (nats D) 0 / 100 * 3600 + val (nats D) 0 % 100 * 60 : Nat) : Int),
      decide (c = 45) && decide (((val (nats D) 0 / 100 * 3600 + val (nats D) 0 % 100 * 60 : Nat) : Int) = 0)) := by
  obtain ⟨hb, h1, h2⟩ := bare_digits h
  unfold zrF
  rw [if_pos (by rcases hc with rfl | rfl <;> simp)]
  simp only [List.drop_succ_cons, List.drop_zero]
  rw [hb, if_neg hne, read_digits h]
  rcases hc with rfl | rfl <;> simp [h1]
theorem zr_two {D : List UInt8} (h : AllDigits (nats D)) (hne : D ≠ []) : zrF (45 :: 45 :: D) = some (((val (nats D) 0 / 100 * 3600 + val (nats D) 0 % 100 * 60 : Nat) : Int), true) := by
  unfold zrF
  have hb : bare (45 :: D) = D := by unfold bare; simp
  simp only [List.drop_succ_cons, List.drop_zero, List.take_succ_cons, List.take_zero, true_or, if_true]
  rw [hb, if_neg hne, read_digits h]
  simp
theorem hm_back {A : Nat} (h : 60 ∣ A) : (A / 3600 * 100 + A / 60 % 60) / 100 * 3600 + (A / 3600 * 100 + A / 60 % 60) % 100 * 60 = A := by
  obtain ⟨q, rfl⟩ := h
  have hb : q % 60 < 100 := Nat.lt_trans (Nat.mod_lt _ (by decide)) (by decide)
  have e := Nat.div_add_mod q 60
  rw [Nat.mul_div_cancel_left q (by decide), show 60 * q / 3600 = q / 60 from Nat.mul_div_mul_left q 60 (by decide), Nat.mul_comm (q / 60) 100, Nat.mul_add_div (by decide), Nat.mul_add_mod, Nat.div_eq_of_lt hb, Nat.mod_eq_of_lt hb]
  generalize q / 60 = a at *; generalize q % 60 = b at *; clear hb; subst e; omega
theorem zone_back {s : Int} {minus : Bool} {t : List UInt8} (h : lzF s minus = some t) : zrF t = some (s, minus && decide (0 ≤ s)) := by
  unfold lzF at h
  split at h
  · cases h
  rename_i h60
  have h60 : s % 60 = 0 := Decidable.of_not_not h60
  have hv : ∀ D : List UInt8, val (nats D) 0 = s.natAbs / 3600 → val (nats (D ++ pad2 (s.natAbs / 60 % 60))) 0 = s.natAbs / 3600 * 100 + s.natAbs / 60 % 60 := fun D hD => by
    rw [nats, List.map_append]
    show List.foldl _ _ _ = _
    rw [List.foldl_append]
    show val (nats (pad2 _)) (val (nats D) 0) = _
    rw [hD, pad_two (Nat.lt_trans (Nat.mod_lt _ (by decide)) (by decide))]
  have hs : ((s.natAbs / 3600 * 100 + s.natAbs / 60 % 60) / 100 * 3600 + (s.natAbs / 3600 * 100 + s.natAbs / 60 % 60) % 100 * 60 : Nat) = s.natAbs := hm_back (Int.natAbs_dvd_natAbs.mpr (Int.dvd_of_emod_eq_zero h60))
  injection h with h
  subst h
  split
  · rename_i hm
    rw [zr_two (digits_app (a := nats _) (b := nats _) (dec_digits _) pad_digits |> fun q => by rw [nats, List.map_append]; exact q) (by simp [dec_ne]), hv _ (dec_val _), hs, hm.1]
    have hp := Int.le_of_lt hm.2
    rw [Int.natAbs_of_nonneg hp, decide_eq_true hp]; rfl
  · rename_i hm
    rw [zr_one (by split <;> simp) (digits_app (a := nats _) (b := nats _) pad_digits pad_digits |> fun q => by rw [nats, List.map_append]; exact q) (by simp [pad_ne]), hv _ pad_val, hs]
    by_cases h1 : minus = true ∨ s < 0
    · rw [if_pos h1]
      have h2 : s ≤ 0 := by
        rcases h1 with h1 | h1
        · exact Int.not_lt.mp fun q => hm ⟨h1, q⟩
        · exact Int.le_of_lt h1
      simp only [if_true, decide_true, Bool.true_and]
      congr 1
      have e1 : -(s.natAbs : Int) = s := by rw [Int.ofNat_natAbs_of_nonpos h2, Int.neg_neg]
      rw [e1]
      congr 1
      cases minus
      · have : s < 0 := by simpa using h1
        rw [Int.ofNat_natAbs_of_nonpos h2, Bool.false_and, decide_eq_false (fun q => Int.ne_of_lt this (Int.neg_eq_zero.mp q))]
      · rw [Int.ofNat_natAbs_of_nonpos h2, Bool.true_and]; exact decide_eq_decide.mpr ⟨fun q => Int.le_of_eq (Int.neg_eq_zero.mp q).symm, fun q => Int.neg_eq_zero.mpr (Int.le_antisymm h2 q)⟩
    · rw [if_neg h1]
      have h2 : minus = false := by cases minus <;> simp_all
      have h3 : ¬ s < 0 := fun q => h1 (.inr q)
      subst h2
      have e1 : (s.natAbs : Int) = s := Int.natAbs_of_nonneg (Int.not_lt.mp h3)
      simp [e1]
end PE
end
section
open _root_.PySem _root_.PySem.W _root_.PyProof.Rows
namespace PG
theorem fd1 {m : Int} (h : m.natAbs < 10 ^ 60) : (m.fdiv 3600).natAbs < 10 ^ 62 := by
  rw [Int.fdiv_eq_ediv_of_nonneg _ (by decide)]; exact om6 (nde h) rfl
theorem fd2 {m : Int} (h : m.natAbs < 10 ^ 60) : (-(m.fdiv 3600)).natAbs < 10 ^ 62 := by
  rw [Int.natAbs_neg]; exact fd1 h
theorem fd3 {m : Int} : ((m.fdiv 60).fmod 60).natAbs < 10 ^ 62 := by
  rw [Int.fmod_eq_emod_of_nonneg _ (by decide)]; exact om6 (nab (K := 60) (Int.emod_nonneg _ (by decide)) (Int.emod_lt_of_pos _ (by decide))) rfl
theorem octs_minus : BE.octs (Str.ofString "-") = [45] := by decide +kernel
theorem octs_plus : BE.octs (Str.ofString "+") = [43] := by decide +kernel
theorem e_neg {n : Int} {b : Bool} (h60 : n.fmod 60 = 0) (h : n < 0) : lzF n b = some (BE.octs (Str.ofString "-" ++ ⟨(BF.two ((-n).fdiv 3600)).toArray⟩ ++ ⟨(BF.two (((-n).fdiv 60).fmod 60)).toArray⟩)) := by
  rw [Int.fmod_eq_emod_of_nonneg _ (by decide)] at h60
  have hn : 0 ≤ -n := Int.neg_nonneg_of_nonpos (Int.le_of_lt h)
  rw [BF.octs_app, BF.octs_app, octs_minus, BF.octs_two, BF.octs_two]
  rw [Int.fdiv_eq_ediv_of_nonneg _ (by decide), Int.fdiv_eq_ediv_of_nonneg _ (by decide), Int.fmod_eq_emod_of_nonneg _ (by decide)]
  unfold lzF
  rw [if_neg (fun q => q h60), if_neg (fun q => absurd q.2 (Int.not_lt.mpr (Int.le_of_lt h))), if_pos (.inr h), if_neg (Int.not_lt.mpr (Int.ediv_nonneg hn (by decide))), if_neg (Int.not_lt.mpr (Int.emod_nonneg _ (by decide)))]
  have e1 : ((-n) / 3600).natAbs = n.natAbs / 3600 := (nd1 hn 3600).trans (by rw [Int.natAbs_neg])
  have e2 : ((-n) / 60 % 60).natAbs = n.natAbs / 60 % 60 := (nd2 hn 60 60).trans (by rw [Int.natAbs_neg])
  rw [e1, e2]; rfl
theorem e_zero {n : Int} (h : ¬ n < 0) (h2 : 0 ≤ -n) : lzF n true = some (BE.octs (Str.ofString "-" ++ ⟨(BF.two ((-n).fdiv 3600)).toArray⟩ ++ ⟨(BF.two (((-n).fdiv 60).fmod 60)).toArray⟩)) := by
  have : n = 0 := Int.le_antisymm (Int.nonpos_of_neg_nonneg h2) (Int.not_lt.mp h)
  subst this
  rw [BF.octs_app, BF.octs_app, octs_minus, BF.octs_two, BF.octs_two]
  rfl
theorem half {t : Int} : -(30 * t) % 60 = 30 * t % 60 := by
  refine Int.emod_eq_emod_iff_emod_sub_eq_zero.mpr ?_
  rw [show -(30 * t) - 30 * t = 60 * (-t) by omega]; exact Int.mul_emod_right 60 (-t)
theorem e_two {n : Int} (h60 : n.fmod 60 = 0) (h : ¬ n < 0) (h2 : ¬ 0 ≤ -n) (hp : PF.plainF n = true) : lzF n true = some (BE.octs (Str.ofString "-" ++ ⟨(BF.two (-(- -n).fdiv 3600)).toArray⟩ ++ ⟨(BF.two (((-n).fdiv 60).fmod 60)).toArray⟩)) := by
  unfold PF.plainF at hp
  rw [Int.fmod_eq_emod_of_nonneg _ (by decide)] at h60
  rw [Int.fmod_eq_emod_of_nonneg _ (by decide), Int.fmod_eq_emod_of_nonneg _ (by decide)] at hp
  simp only [Bool.or_eq_true, Bool.and_eq_true, decide_eq_true_eq] at hp
  have h3 : 3600 ≤ n ∧ n % 1800 = 0 := by
    rcases hp with (hp | hp) | hp
    · exact absurd (Int.neg_nonneg_of_nonpos hp) h2
    · exact absurd h60 hp
    · exact hp
  have hn := Int.not_lt.mp h
  obtain ⟨h3, h4⟩ := h3
  obtain ⟨t, rfl⟩ := Int.dvd_of_emod_eq_zero h4
  have hd : 1 ≤ 1800 * t / 3600 := Int.le_ediv_of_mul_le (by decide) h3
  have e6 : -(1800 * t) / 60 = -(30 * t) := by rw [show -(1800 * t) = 60 * (-(30 * t)) by omega]; exact Int.mul_ediv_cancel_left _ (by decide)
  have e7 : 1800 * t / 60 = 30 * t := by rw [show 1800 * t = 60 * (30 * t) by omega]; exact Int.mul_ediv_cancel_left _ (by decide)
  rw [BF.octs_app, BF.octs_app, octs_minus, BF.octs_two, BF.octs_two]
  rw [Int.fdiv_eq_ediv_of_nonneg _ (by decide), Int.fdiv_eq_ediv_of_nonneg _ (by decide), Int.fmod_eq_emod_of_nonneg _ (by decide), Int.neg_neg]
  unfold lzF
  rw [if_neg (fun q => q h60), if_pos ⟨rfl, Int.lt_of_lt_of_le (by decide) h3⟩, if_pos (Int.neg_neg_of_pos hd), if_neg (Int.not_lt.mpr (Int.emod_nonneg _ (by decide)))]
  have e1 : (-(1800 * t / 3600)).natAbs = (1800 * t).natAbs / 3600 := (Int.natAbs_neg _).trans (nd1 hn 3600)
  have e2 : (-(1800 * t) / 60 % 60).natAbs = (1800 * t).natAbs / 60 % 60 := by
    rw [e6, half, ← e7]; exact nd2 hn 60 60
  rw [e1, e2]; rfl
theorem e_pos {n : Int} (h60 : n.fmod 60 = 0) (h : ¬ n < 0) : lzF n false = some (BE.octs (Str.ofString "+" ++ ⟨(BF.two (n.fdiv 3600)).toArray⟩ ++ ⟨(BF.two ((n.fdiv 60).fmod 60)).toArray⟩)) := by
  rw [Int.fmod_eq_emod_of_nonneg _ (by decide)] at h60
  have hn := Int.not_lt.mp h
  rw [BF.octs_app, BF.octs_app, octs_plus, BF.octs_two, BF.octs_two]
  rw [Int.fdiv_eq_ediv_of_nonneg _ (by decide), Int.fdiv_eq_ediv_of_nonneg _ (by decide), Int.fmod_eq_emod_of_nonneg _ (by decide)]
  unfold lzF
  rw [if_neg (fun q => q h60), if_neg (fun q => nomatch q.1), if_neg (fun q => q.elim (fun q => nomatch q) h), if_neg (Int.not_lt.mpr (Int.ediv_nonneg hn (by decide))), if_neg (Int.not_lt.mpr (Int.emod_nonneg _ (by decide)))]
  have e1 : (n / 3600).natAbs = n.natAbs / 3600 := nd1 hn 3600
  have e2 : (n / 60 % 60).natAbs = n.natAbs / 60 % 60 := nd2 hn 60 60
  rw [e1, e2]; rfl
theorem e_bad {n : Int} {b : Bool} (h60 : n.fmod 60 ≠ 0) : lzF n b = none := by
  rw [Int.fmod_eq_emod_of_nonneg _ (by decide)] at h60
  unfold lzF; rw [if_pos h60]
end PG
end
section
open _root_.PySem _root_.PySem.W _root_.PyProof.Rows
namespace PH
theorem size_int {n : Int} (h : n.natAbs < 10 ^ 62) : (Str.ofString (toString n)).cps.size ≤ sizeLine := by
  have := BF.int_len h
  rw [sizeLine_eq]
  rw [Array.length_toList] at this
  (first | lia | omega)
theorem octs_int_len {n : Int} (h : n.natAbs < 10 ^ 62) : (BE.octs (Str.ofString (toString n))).length ≤ 63 := by
  rw [BF.octs_len]; exact BF.int_len h
theorem octs_fmt_len {S : Str} {hr mn : Int} (hS : S.length ≤ 1) (h1 : hr.natAbs < 10 ^ 62) (h2 : mn.natAbs < 10 ^ 62) : (BE.octs (S ++ ⟨(BF.two hr).toArray⟩ ++ ⟨(BF.two mn).toArray⟩)).length ≤ 145 := by
  have a1 := BF.two_len h1
  have a2 := BF.two_len h2
  rw [BF.octs_len, Array.length_toList]
  show (S ++ ⟨(BF.two hr).toArray⟩ ++ ⟨(BF.two mn).toArray⟩ : Str).length ≤ 145
  rw [Str.length_append, Str.length_append]
  (first | lia | omega)
theorem join3 {x y z : List UInt8} (h1 : x.length ≤ 600) (h2 : y.length ≤ 1000) (h3 : z.length ≤ 1000) : (PL.joinC [32] [x, y, z]).length ≤ 1000000 := by
  rw [BZ.joinC_length]; simp; (first | lia | omega)
theorem join3_eq (x y z : List UInt8) : PL.joinC [32] [x, y, z] = x ++ 32 :: (y ++ 32 :: z) := by
  rw [PL.joinC_cons, PL.joinC_cons]
  show x ++ [32] ++ (y ++ [32] ++ z) = _
  simp
end PH
end
section
open _root_.PySem _root_.PySem.W _root_.PySem.NumText
noncomputable def topW (j : Nat) : Int := 36000 * 10 ^ j
noncomputable def wl : Nat → List Int
  | 0 => [36000, 3600, 600, 60]
  | j + 1 => topW (j + 1) :: wl j
noncomputable def Wok (R : Int) (W : List Int) : Prop := 4 ≤ W.length ∧ W.length ≤ 100 ∧ ∃ j, W = wl j ∧ (j = 0 ∨ topW j ≤ R)
noncomputable abbrev lzStep (p : List Int × Int) (w : Int) : List Int × Int := (p.1 ++ [48 + p.2.fdiv w], p.2.fmod w)
theorem wl_head (j : Nat) : (wl j).getD 0 0 = topW j := by cases j <;> rfl
theorem wl_len (j : Nat) : (wl j).length = j + 4 := by
  induction j with
  | zero => rfl
  | succ j ih => show (wl j).length + 1 = _; lia
namespace PN
open PD
noncomputable def digZ : Nat → Nat → List Int
  | 0, _ => []
  | k + 1, h => digZ k (h / 10) ++ [48 + ((h % 10 : Nat) : Int)]
noncomputable def digB : Nat → Nat → List UInt8
  | 0, _ => []
  | k + 1, h => digB k (h / 10) ++ [(48 + h % 10).toUInt8]
theorem digZ_len : ∀ k h, (digZ k h).length = k
  | 0, _ => rfl
  | k + 1, h => by rw [digZ, List.length_append, digZ_len]; rfl
theorem digZ_B : ∀ k h, (digZ k h).map (fun n => n.toNat.toUInt8) = digB k h
  | 0, _ => rfl
  | k + 1, h => by
    rw [digZ, List.map_append, digZ_B, digB, List.map_cons, List.map_nil]
    congr 2
theorem digZ_in : ∀ k h, ∀ f ∈ digZ k h, 0 ≤ f ∧ f < 256
  | 0, _, f, hf => nomatch hf
  | k + 1, h, f, hf => by
    rw [digZ, List.mem_append] at hf
    rcases hf with hf | hf
    · exact digZ_in k _ f hf
    · rw [List.mem_singleton] at hf; subst hf; exact ⟨Int.le_trans (by decide) (Int.le_add_of_nonneg_right (Int.natCast_nonneg _)), Int.lt_of_lt_of_le (Int.add_lt_add_left (Int.ofNat_lt.mpr (Nat.mod_lt h (show 0 < 10 by decide))) 48) (by decide)⟩
theorem digZ_msb : ∀ k h, h < 10 ^ (k + 1) → digZ (k + 1) h = (48 + ((h / 10 ^ k : Nat) : Int)) :: digZ k (h % 10 ^ k)
  | 0, h, hh => by
    show digZ 0 (h / 10) ++ [48 + ((h % 10 : Nat) : Int)] = _
    have : h % 10 = h / 10 ^ 0 := by rw [Nat.pow_zero, Nat.div_one]; exact Nat.mod_eq_of_lt hh
    rw [this]; rfl
  | k + 1, h, hh => by
    rw [digZ, digZ_msb k (h / 10) (Nat.div_lt_of_lt_mul (Nat.pow_succ' (m := 10) ▸ hh)), digZ]
    rw [Nat.div_div_eq_div_mul, show 10 * 10 ^ k = 10 ^ (k + 1) from Nat.pow_succ'.symm]
    have e1 : h % 10 ^ (k + 1) / 10 = h / 10 % 10 ^ k := by rw [show 10 ^ (k + 1) = 10 * 10 ^ k from Nat.pow_succ', Nat.mod_mul_right_div_self]
    have e2 : h % 10 ^ (k + 1) % 10 = h % 10 := Nat.mod_mod_of_dvd _ ⟨10 ^ k, Nat.pow_succ'⟩
    rw [e1, e2]; rfl
noncomputable def wz : Nat → List Int
  | 0 => []
  | k + 1 => (3600 * 10 ^ k : Int) :: wz k
theorem fold_wz : ∀ (k r : Nat) (F : List Int), r < 3600 * 10 ^ k → (wz k).foldl lzStep (F, (r : Int)) = (F ++ digZ k (r / 3600), ((r % 3600 : Nat) : Int))
  | 0, r, F, h => by
    have e : r % 3600 = r := Nat.mod_eq_of_lt h
    rw [e]; simp [wz, digZ]
  | k + 1, r, F, h => by
    have hc : ((3600 : Int) * 10 ^ k) = ((3600 * 10 ^ k : Nat) : Int) := by push_cast; rfl
    have hp : 0 < 10 ^ k := Nat.pow_pos (by decide)
    rw [wz, List.foldl_cons]
    show (wz k).foldl lzStep (F ++ [48 + (r : Int).fdiv (3600 * 10 ^ k)], (r : Int).fmod (3600 * 10 ^ k)) = _
    rw [hc, Int.fdiv_eq_ediv_of_nonneg _ (Int.natCast_nonneg _), Int.fmod_eq_emod_of_nonneg _ (Int.natCast_nonneg _), ← Int.natCast_ediv, ← Int.natCast_emod, fold_wz k _ _ (Nat.mod_lt _ (Nat.mul_pos (by decide) hp))]
    rw [digZ_msb k (r / 3600) (Nat.div_lt_of_lt_mul h)]
    have e1 : r % (3600 * 10 ^ k) / 3600 = r / 3600 % 10 ^ k := Nat.mod_mul_right_div_self ..
    have e2 : r % (3600 * 10 ^ k) % 3600 = r % 3600 := Nat.mod_mod_of_dvd _ ⟨10 ^ k, rfl⟩
    rw [e1, e2, Nat.div_div_eq_div_mul]
    simp
theorem wl_wz : ∀ j, wl j = wz (j + 2) ++ [600, 60]
  | 0 => rfl
  | j + 1 => by
    rw [wl, wl_wz j]
    show topW (j + 1) :: (wz (j + 2) ++ [600, 60]) = (3600 * 10 ^ (j + 2) : Int) :: (wz (j + 2) ++ [600, 60])
    congr 1
    unfold topW; rw [Int.pow_succ (10 : Int) (j + 1)]; lia
theorem digB_dec : ∀ k h, h < 10 ^ (k + 1) → (k = 0 ∨ 10 ^ k ≤ h) → digB (k + 1) h = decN h
  | 0, h, hh, _ => by
    rw [dec_lt hh, digB, digB, Nat.mod_eq_of_lt hh]; rfl
  | k + 1, h, hh, hl => by
    have hl : 10 ^ (k + 1) ≤ h := hl.resolve_left (Nat.succ_ne_zero k)
    have hg : 10 ^ k ≤ h / 10 := (Nat.le_div_iff_mul_le (by decide)).mpr hl
    rw [digB, digB_dec k (h / 10) (Nat.div_lt_of_lt_mul (Nat.pow_succ' (m := 10) ▸ hh)) (.inr hg), ← dec_ge (Nat.not_lt.mpr (Nat.le_trans (Nat.pow_le_pow_right (n := 10) (by decide) (Nat.le_add_left 1 k)) hl))]
theorem digB_two {h : Nat} (hh : h < 100) : digB 2 h = pad2 h := by
  unfold pad2
  split
  · rename_i q
    rw [dec_lt q, digB, digB, digB, Nat.mod_eq_of_lt q, Nat.div_eq_of_lt q]; rfl
  · rename_i q
    exact digB_dec 1 h hh (.inr (Nat.not_lt.mp q))
theorem n1 (R : Nat) : R % 3600 / 600 = R / 60 % 60 / 10 % 10 := by
  rw [show R % 3600 / 600 = R % (60 * 60) / 60 / 10 from (Nat.div_div_eq_div_mul (R % 3600) 60 10).symm, Nat.mod_mul_right_div_self]
  exact (Nat.mod_eq_of_lt (Nat.div_lt_of_lt_mul (show R / 60 % 60 < 10 * 10 from Nat.lt_trans (Nat.mod_lt _ (show 0 < 60 by decide)) (by decide)))).symm
theorem n2 (R : Nat) : R % 3600 % 600 / 60 = R / 60 % 60 % 10 := by
  rw [Nat.mod_mod_of_dvd R (show 600 ∣ 3600 by decide), show R % 600 / 60 = R % (60 * 10) / 60 from rfl, Nat.mod_mul_right_div_self, Nat.mod_mod_of_dvd _ (show 10 ∣ 60 by decide)]
theorem n3 (R : Nat) : R % 3600 % 600 % 60 = R % 60 := by
  rw [Nat.mod_mod_of_dvd R (show 600 ∣ 3600 by decide), Nat.mod_mod_of_dvd R (show 60 ∣ 600 by decide)]
theorem abs_if (n : Int) : (if n < 0 then -n else n) = (n.natAbs : Int) := by
  split
  · rename_i h; exact (Int.ofNat_natAbs_of_nonpos (Int.le_of_lt h)).symm
  · rename_i h; exact (Int.natAbs_of_nonneg (Int.not_lt.mp h)).symm
theorem abs_60 (n : Int) : (n.natAbs : Int) % 60 = 0 ↔ n % 60 = 0 :=
  ⟨fun h => Int.emod_eq_zero_of_dvd (Int.dvd_natAbs.mp (Int.dvd_of_emod_eq_zero h)), fun h => Int.emod_eq_zero_of_dvd (Int.dvd_natAbs.mpr (Int.dvd_of_emod_eq_zero h))⟩
end PN
open PN PD in
theorem lz_all {n r : Int} {F W : List Int} (hW : Wok (if n < 0 then -n else n) W) (hc : ¬ W.getD (Int.toNat 0) 0 * 10 ≤ (if n < 0 then -n else n)) (h : (F, r) = W.foldl lzStep ([], if n < 0 then -n else n)) :
    (r = 0 ↔ n % 60 = 0) ∧ (∀ f ∈ F, 0 ≤ f ∧ f < 256) ∧ (F.map fun n => n.toNat.toUInt8) = pad2 (n.natAbs / 3600) ++ pad2 (n.natAbs / 60 % 60) ∧ F.length = W.length ∧
      ((if F.getD 0 0 = 48 then F.drop 1 else F).map fun n => n.toNat.toUInt8) = decN (n.natAbs / 3600) ++ pad2 (n.natAbs / 60 % 60) := by
  have eR := abs_if n
  rw [eR] at hW hc h
  obtain ⟨_, _, j, rfl, hj⟩ := hW
  rw [show Int.toNat 0 = 0 from rfl, wl_head] at hc
  have hN := abs_60 n
  generalize n.natAbs = R at *
  have hlt : R < 3600 * 10 ^ (j + 2) := by
    have e : topW j * 10 = ((3600 * 10 ^ (j + 2) : Nat) : Int) := by
      unfold topW; push_cast; rw [Int.pow_succ (10 : Int) (j + 1), Int.pow_succ (10 : Int) j]; lia
    rw [e] at hc; exact Int.ofNat_lt.mp (Int.not_le.mp hc)
  have hge : j = 0 ∨ 3600 * 10 ^ (j + 1) ≤ R := by
    rcases hj with hj | hj
    · exact .inl hj
    · have e : topW j = ((3600 * 10 ^ (j + 1) : Nat) : Int) := by
        unfold topW; push_cast; rw [Int.pow_succ (10 : Int) j]; lia
      rw [e] at hj; exact .inr (Int.ofNat_le.mp hj)
  rw [wl_wz, List.foldl_append, fold_wz _ _ _ hlt] at h
  have h : (F, r) = (([] ++ digZ (j + 2) (R / 3600) ++ [48 + ((R % 3600 : Nat) : Int).fdiv 600]) ++ [48 + (((R % 3600 : Nat) : Int).fmod 600).fdiv 60], (((R % 3600 : Nat) : Int).fmod 600).fmod 60) := h
  rw [Prod.mk.injEq] at h
  obtain ⟨hF, hr⟩ := h
  rw [Int.fmod_eq_emod_of_nonneg _ (by decide), Int.fmod_eq_emod_of_nonneg _ (by decide), show ((R % 3600 : Nat) : Int) % 600 % 60 = ((R % 3600 % 600 % 60 : Nat) : Int) from rfl, n3] at hr
  have eF : F = digZ (j + 2) (R / 3600) ++ digZ 2 (R / 60 % 60) := by
    rw [hF, Int.fmod_eq_emod_of_nonneg _ (by decide), Int.fdiv_eq_ediv_of_nonneg _ (by decide), Int.fdiv_eq_ediv_of_nonneg _ (by decide), show digZ 2 (R / 60 % 60) = [48 + ((R / 60 % 60 / 10 % 10 : Nat) : Int), 48 + ((R / 60 % 60 % 10 : Nat) : Int)] from rfl]
    simp only [List.nil_append, List.append_assoc, List.cons_append]
    have e1 : ((R % 3600 : Nat) : Int) / 600 = ((R / 60 % 60 / 10 % 10 : Nat) : Int) := congrArg Int.ofNat (n1 R)
    have e2 : ((R % 3600 : Nat) : Int) % 600 / 60 = ((R / 60 % 60 % 10 : Nat) : Int) := congrArg Int.ofNat (n2 R)
    rw [e1, e2]
  have hd : R / 3600 < 10 ^ (j + 1 + 1) := Nat.div_lt_of_lt_mul hlt
  have hge : j = 0 ∨ 10 ^ (j + 1) ≤ R / 3600 := hge.imp_right fun h => (Nat.le_div_iff_mul_le (by decide)).mpr (by rw [Nat.mul_comm]; exact h)
  have eB : digB (j + 2) (R / 3600) = pad2 (R / 3600) := by
    rcases hge with rfl | hge
    · exact digB_two hd
    · rw [digB_dec (j + 1) (R / 3600) hd (.inr hge)]
      unfold pad2; rw [if_neg (Nat.not_lt.mpr (Nat.le_trans (Nat.pow_le_pow_right (n := 10) (by decide) (Nat.le_add_left 1 j)) hge))]
  have em : digB 2 (R / 60 % 60) = pad2 (R / 60 % 60) := digB_two (Nat.lt_trans (Nat.mod_lt _ (by decide)) (by decide))
  refine ⟨by rw [hr]; exact hN, ?_, ?_, ?_, ?_⟩
  · intro f hf
    rw [eF, List.mem_append] at hf
    exact hf.elim (digZ_in _ _ f) (digZ_in _ _ f)
  · rw [eF, List.map_append, digZ_B, digZ_B, eB, em]
  · rw [eF, List.length_append, digZ_len, digZ_len, wl_len]
  · have em2 := digZ_msb (j + 1) (R / 3600) hd
    have eh : F.getD 0 0 = 48 + ((R / 3600 / 10 ^ (j + 1) : Nat) : Int) := by rw [eF, em2]; rfl
    rw [eh]
    by_cases q : R / 3600 < 10 ^ (j + 1)
    · rw [Nat.div_eq_of_lt q, if_pos (by rfl)]
      have hj0 : j = 0 := hge.resolve_right (Nat.not_le.mpr q)
      subst hj0
      have q : R / 3600 < 10 := q
      rw [eF, em2]
      show ((digZ 1 (R / 3600 % 10 ^ 1) ++ digZ 2 (R / 60 % 60)).map _) = _
      rw [List.map_append, digZ_B, digZ_B, em, Nat.mod_eq_of_lt q, digB_dec 0 _ q (.inl rfl)]
    · have hq : 0 < R / 3600 / 10 ^ (j + 1) := Nat.div_pos (Nat.not_lt.mp q) (Nat.pow_pos (by decide))
      rw [if_neg (fun e => Nat.ne_of_gt hq (Int.ofNat.inj (Int.add_left_cancel (e.trans (Int.add_zero 48).symm)))), eF, List.map_append, digZ_B, digZ_B, em]
      rw [digB_dec (j + 1) (R / 3600) hd (.inr (Nat.not_lt.mp q))]
end
section
open _root_.PySem _root_.PySem.W _root_.PySem.Spec _root_.PySem.Calls _root_.PyProof.Rows
theorem told_LT : True := by
  k_with_none
  w_top off
  k_with "own omega" => (with_reducible first | exact om6 (by assumption) rfl | exact om0 (by assumption) | exact om2 (by assumption) rfl | exact om3 (by assumption) rfl | exact om4 (by assumption) rfl | exact Int.emod_nonneg _ (by decide) | exact Int.emod_lt_of_pos _ (by decide) | exact om8 (by assumption) rfl | exact om9 (by assumption) rfl)
  k_with "storeName" => ((k_here; k_dflt (first | ((with_reducible show wpAny _ _ (storeName _ _ (Value.int _ _)) _ _ _); refine storeG_int (by k_asm) (by k_asm) ?_ (by rfl) (by rfl); intro hq9 tq9 kq9 Fq9 Nq9) | ((with_reducible show wpAny _ _ (storeName _ _ (Value.bytes _ _)) _ _ _); refine storeG_bytes (by k_asm) (by k_asm) ?_ (by rfl) (by rfl); intro hq9 tq9 kq9 Fq9 Nq9) | (refine storeG_any (by k_asm) (by k_asm) ?_ (by rfl) (by rfl); intro hq9 kq9 Fq9 Nq9)); (try k_sweep)))
  k_with "Go" => (refine go_on (by assumption) ?_)
  k_with "own kby_size" => ((first | assumption | omega | (simp only [List.length_append, List.length_cons, List.length_nil] at *; omega)))
  k_with "subscriptTail" => ((k_here; (with_reducible show wpAny _ _ (subscriptTail _ (Expr.Slice _ _ none _) (Value.bytes (List.toArray _) _) (Value.ref _)) _ _ _); (with_reducible rename Fr _ _ _ _ => Fq9); (with_reducible rename News _ _ _ _ => Nq9); (refine BY.slice_L (s := ⟨_, _, _, _, _⟩) Fq9 Nq9 (by constructor) (by constructor) (by kby_size) ?_); intro _ _ _ Fq9 Nq9 hlenq9))
  k_with "binaryOp Add bytes bytes" => ((k_here; (with_reducible show wpAny _ _ (binaryOp Operator.Add (Value.bytes (List.toArray _) _) (Value.bytes (List.toArray _) _)) _ _ _); (refine BY.add_L (by kby_size) ?_); intro _ _))
  k_with "compareOp Eq bytes bytes" => ((k_here; (with_reducible show wpAny _ _ (compareOp CmpOp.Eq (Value.bytes (List.toArray _) _) (Value.bytes (List.toArray _) _)) _ _ _); (refine BY.eq_L ?_)))
  k_with "compareOp NotEq bytes bytes" => ((k_here; (with_reducible show wpAny _ _ (compareOp CmpOp.NotEq (Value.bytes (List.toArray _) _) (Value.bytes (List.toArray _) _)) _ _ _); (refine BY.ne_L ?_)))
  k_with "subscriptTail" => ((k_here; (with_reducible show wpAny _ _ (subscriptTail _ _ (Value.bytes (List.toArray _) _) (Value.int _ _)) _ _ _); (refine BY.item_L (by kby_size) (by first | decide | omega) (by first | omega | (simp only [List.length_append, List.length_cons, List.length_nil] at *; omega)) ?_); intro _ _))
  k_with "compareOp NotIn int bytes" => ((k_here; (with_reducible show wpAny _ _ (compareOp CmpOp.NotIn (Value.int _ _) (Value.bytes (List.toArray _) _)) _ _ _); (refine BY.notIn_B ?_)))
  k_with "call type:int" => ((k_here; (with_reducible show wpAny _ _ (call (Value.type "int") [Value.bytes (List.toArray _) _]) _ _ _); (refine IR.call_int_bytes (by assumption) (by assumption) ?_)))
  k_with "getMethod bytes" => ((k_here; first | (with_reducible refine BW.meth_rindex ?_) | (with_reducible refine BW.meth_rsplit ?_) | (with_reducible refine BW.meth_split ?_) | (with_reducible refine BW.meth_join ?_)))
  k_with "call builtin:bytes.rindex" => ((k_here; first
  | (refine BW.rindex_found (by with_reducible assumption) ?_; intro _ _)
  | (refine BW.rindex_not (by with_reducible assumption) (by first | exact rfl | assumption) ?_; intro _ _ _ _ hxq9)))
  k_with "call builtin:bytes.rsplit" => ((k_here; first
  | (refine BW.rsplit_two (by k_asm) (by k_asm) (by kby_size) (by with_reducible assumption) ?_; intro Dq9 t1q9 t2q9 hq9 kq9 Fq9 Nq9 l1q9; (try k_lt l1q9))
  | (refine BW.rsplit_one (by k_asm) (by k_asm) (by kby_size) (by with_reducible assumption) ?_; intro Dq9 t1q9 hq9 kq9 Fq9 Nq9 l1q9; (try k_lt l1q9))))
  k_with "call builtin:bytes.split" => ((k_here; (refine BW.split_L (by k_asm) (by k_asm) (by kby_size) ?_); intro Dq9 vsq9 hq9 kq9 hvsq9 Fq9 Nq9 l1q9; (try k_lt l1q9)))
  k_with "call builtin:bytes.join" => ((k_here; (refine BW.join_L (News.isList (by k_asm) (by k_mem)) (by with_reducible assumption) (by kby_size) ?_); intro _ _))
  k_with "assign Tuple" => ((k_here; (with_reducible show wpAny _ _ (assign (Expr.Tuple _ _ _) _ (Value.ref _)) _ _ _); (refine BW.unpack_one (News.isList (by k_asm) (by k_mem)) (by exact rfl) (by exact rfl) (by exact rfl) ?_); intro _ _ _ _ hxq9))
  k_with "subscriptTail" => ((k_here; (with_reducible show wpAny _ _ (subscriptTail _ _ (Value.ref _) (Value.int _ _)) _ _ _); (refine BW.item_BL (News.isList (by k_asm) (by k_mem)) (by with_reducible assumption) (by first | assumption | omega) (by first | assumption | omega) (by first | assumption | omega) ?_); intro _))
  k_with "noteFrame ref" => ((k_here; k_dflt ((with_reducible rename Heap.MadeExc _ _ _ _ _ => hxMq9); (refine look_made2 (Heap.MadeExc.of hxMq9) (by k_asm) (by k_asm) (by assumption) ?_); clear hxMq9; intro hq9 tq9 Gq9 Fq9 Rq9 alq9 Uq9; (try dsimp only at Rq9 Uq9 ⊢))))
  k_with "leaving ref" => ((k_here; k_dflt ((with_reducible rename KtsDicts _ _ => kdX); (with_reducible rename Heap.MadeExc _ _ _ _ _ => hxMq9); (refine leave_raise2 (by assumption) (Heap.MadeExc.of hxMq9) (by assumption) (by k_asm) ?_); intro hq9 tq9 Sq9 alq9 Uq9; (have Rq9 := RaisedS.toK Sq9); (try dsimp only at Sq9 Rq9 Uq9 ⊢))))
  k_with "noteFrame ref" => ((k_here; k_dflt ((rename RaisedS _ _ _ _ _ _ _ _ _ => rsX); (with_reducible rename Alone _ _ => alX); (with_reducible show wpAny _ _ (noteFrame _ _) (fun _ s₂ => wpAny _ _ (setFlight _ none) (fun _ s₃ => wpAny _ _ (handleBy _ _ [ExceptHandler.ExceptHandler _ (some _) [Stmt.Raise (some _) (some _) _] _]) _ _ s₃) _ s₂) _ _); (refine look_on2 rsX alX (by assumption) (by assumption) ?_); intro hq9 Rq9 alq9 Uq9; (try dsimp only at Rq9 Uq9 ⊢))))
  k_with "handleBy ref" => ((k_here; k_dflt ((with_reducible rename Alone _ _ => alX); (refine hit2 (by assumption) alX (by assumption) (by assumption) (by assumption) (by assumption) (by assumption) (by assumption) (by kts_test) PySem.F.excBase_Exception PySem.F.excRaise_ValueError (by k_is) (by k_exc) ?_ (fun _ _ hh => hh)); intro hq9 tkq9 e2q9 t2q9 Rq9 RKq9 Uq9; (try dsimp only at Rq9 RKq9 Uq9 ⊢))))
  trivial
noncomputable abbrev Line := Option (List UInt8 × Option (Int × (Int × Bool)))
noncomputable def RetLine (o : Line) (v : Value) (new : Led) : Prop := match o with
  | none => v = .none ∧ new = []
  | some (p, none) => ∃ a b t, v = .ref a ∧ new = [(a, tupO [.bytes p.toArray t, .none, .ref b]), (b, tupO [.none, .bool false])]
  | some (p, some (k, z)) => ∃ a b t u x, v = .ref a ∧ new = [(a, tupO [.bytes p.toArray t, .int k u, .ref b]), (b, tupO [.int z.1 x, .bool z.2])]
noncomputable def ltF (x : List UInt8) : Line := match PL.lastMark x with
  | none => some (x, none)
  | some (p, r) => match PL.lastSp 32 r with
    | none => none
    | some (a, b) => match IR.intB a with
      | none => none
      | some k => (tzF b).map fun z => (p ++ [62], some (k, z))

theorem cut_zero (hi : Option Int) (x : List UInt8) : BY.cut (some 0) hi x = BY.cut none hi x := by
  unfold BY.cut
  have : clipAt x.length 0 = 0 := (BY.clip_nat x.length 0).trans (Nat.zero_min _)
  simp only [Option.elim, this]
theorem news_tail {h₀ h : Heap} {L : Addr} {q : Addr × Obj} {l : Led} (N : News h₀ L h (q :: l)) : News h₀ L h l := fun p hp => N p (.tail _ hp)
theorem news_mid {h₀ h : Heap} {L : Addr} {x y q : Addr × Obj} {l : Led} (N : News h₀ L h (x :: y :: q :: l)) : News h₀ L h (x :: y :: l) := fun p hp => N p (by simp only [List.mem_cons] at hp ⊢; rcases hp with h | h | h <;> simp [h])
theorem told_LT_5 : True := by
  k_with "execs cons" => ((k_here; (with_reducible show wpAny _ _ (execs (Stmt.Raise _ _ _ :: _) _) _ _ _); k_dflt (exact absurd hg (by assumption))))
  k_with "execs cons" => ((k_here; (with_reducible show wpAny _ _ (execs (Stmt.Assign [PySem.Expr.Name (Str.ofString "sign") _] _ _ :: _) _) _ _ _); k_dflt (exact absurd (by assumption) hg)))
  trivial
set_option maxHeartbeats 8000000 in
theorem line_told (w : World) (mean : ExcName → Option Value) (mg mb : Str → Option Value) (x : List UInt8) (tx : Tok) (hx : x.length ≤ 600) (hb : ∀ p r a b, PL.lastMark x = some (p, r) → PL.lastSp 32 r = some (a, b) → 1 ≤ b.length) :
    ConL w mean mg mb 173 [.bytes x.toArray tx] (RetLine (ltF x)) := by
  unfold ConL
  k_fill
  intro cn cs a ccd h₀ L m news s Q E B F X N T hk hret
  refine wpK_call ?_
  ((refine' codeK_defS0 ?k1_1 ?k2_1 ?k3_1 ?k4_1 ?k5_1 ?kA_1 ?k6_1 ?k7_1 ?k8_1 ?k9_1 ?kB_1 ?_ ?cK_1 ?c2_1 ?c3_1 ?c4_1 ?c5_1; (case kA_1 => exact rfl); (case k2_1 => k_asm); (case k1_1 => k_asm); (case k3_1 => k_asm); (case k4_1 => k_asm); (case k5_1 => k_asm); (case k6_1 => k_is); (case k7_1 => k_is); (case k8_1 => k_room); (case k9_1 => exact BindsTo.of_eq rfl); (case kB_1 => exact locs rfl); (case cK_1 => first | assumption | exact rfl); (case c2_1 => exact rfl); (case c3_1 => exact rfl); (case c4_1 => exact rfl); (case c5_1 => decide); intro gz' Lz' hz' FGz' Fz' Nz' Bz' Xz' Tz' Dz'; (try dsimp only); (try k_lift Bz'); (try k_fold)))
  refine wpK_execs_cons (wpK_Try_except (gen_K fun _ _ _ _ => wpK_execs_cons (wpK_Assign_Name (wpK_Call ?_))))
  k_steps
  refine wpK_callWith (K := hd.heap_1 w.params) ?_ ?_
  · k_is
  k_steps
  refine wpK_call ?_
  ((refine' codeK_defS ?k1_2 ?k2_2 ?k3_2 ?k4_2 ?k5_2 ?XB_2 ?TB_2 ?D_2 ?T0_2 ?kA_2 ?k6_2 ?k7_2 ?k8_2 ?k9_2 ?kB_2 ?_ ?cK_2 ?c2_2 ?c3_2 ?c4_2 ?c5_2; (case kA_2 => exact rfl); (case k2_2 => k_asm); (case k1_2 => k_asm); (case XB_2 => assumption); (case TB_2 => assumption); (case D_2 => assumption); (case T0_2 => first | assumption | exact KtsTurn.refl); (case k3_2 => k_asm); (case k4_2 => k_asm); (case k5_2 => k_asm); (case k6_2 => k_is); (case k7_2 => k_is); (case k8_2 => k_room); (case k9_2 => exact BindsTo.of_eq rfl); (case kB_2 => exact locs rfl); (case cK_2 => first | assumption | exact rfl); (case c2_2 => exact rfl); (case c3_2 => exact rfl); (case c4_2 => exact rfl); (case c5_2 => decide); intro gz' Lz' hz' FGz' Fz' Nz' Bz' Xz' Tz' Dz'; (try dsimp only); (try k_lift Bz'); (try k_fold)))
  cases hm : PL.lastMark x with
  | none =>
    have ez : ltF x = some (x, none) := by unfold ltF; rw [hm]
    rw [ez] at hret
    refine wpK_of ?_
    k_steps
    refine wpK_of ?_
    k_steps
    dsimp only
    refine wpK_of ?_
    k_steps
    exact end2 hret (by assumption) (by (first | (assumption) | (apply news_mid; assumption) | (apply news_mid; apply news_mid; assumption) | (apply news_mid; apply news_mid; apply news_mid; assumption) | (apply news_mid; apply news_mid; apply news_mid; apply news_mid; assumption) | (apply news_mid; apply news_mid; apply news_mid; apply news_mid; apply news_mid; assumption) | (apply news_mid; apply news_mid; apply news_mid; apply news_mid; apply news_mid; apply news_mid; assumption))) ⟨_, _, _, rfl, rfl⟩
  | some z =>
    obtain ⟨p, r⟩ := z
    have hxe := PL.lastMark_eq hm
    have hc1 : BY.cut (some ((p.length : Int) + 2)) none x = r := by
      rw [show ((p.length : Int) + 2) = ((p.length + 2 : Nat) : Int) by simp, cut_from, hxe]; simp
    have hc2 : BY.cut (some 0) (some ((p.length : Int) + 1)) x = p ++ [62] := by
      rw [cut_zero, show ((p.length : Int) + 1) = ((p.length + 1 : Nat) : Int) by simp, cut_to, hxe]
      rw [show p ++ 62 :: 32 :: r = (p ++ [62]) ++ 32 :: r by simp, List.take_left' (by simp)]
    refine wpK_execs_cons (wpK_of ?_)
    k_steps
    dsimp only
    refine wpK_execs_cons (wpK_Try_except (gen_K fun _ _ _ _ => wpK_execs_cons (wpK_of ?_)))
    k_steps
    dsimp only
    refine wpK_execs_cons (wpK_of ?_)
    k_steps
    dsimp only
    cases hs : PL.lastSp 32 r with
    | none =>
      have hs' : PL.lastSp 32 (BY.cut (some ((p.length : Int) + 2)) none x) = none := by rw [hc1]; exact hs
      have ez : ltF x = none := by unfold ltF; rw [hm]; dsimp only; rw [hs]
      rw [ez] at hret
      refine wpK_of ?_
      k_steps
      exact end0 hret (by assumption) (by (first | (assumption) | (apply news_tail; assumption) | (apply news_tail; apply news_tail; assumption) | (apply news_tail; apply news_tail; apply news_tail; assumption) | (apply news_tail; apply news_tail; apply news_tail; apply news_tail; assumption) | (apply news_tail; apply news_tail; apply news_tail; apply news_tail; apply news_tail; assumption))) ⟨rfl, rfl⟩
    | some y =>
      obtain ⟨a, b⟩ := y
      have hs' : PL.lastSp 32 (BY.cut (some ((p.length : Int) + 2)) none x) = some (a, b) := by rw [hc1]; exact hs
      have hre := PL.lastSp_eq hs
      have hlen : a.length + b.length + 3 ≤ x.length := by rw [hxe, hre]; simp; omega
      have hb1 : 1 ≤ b.length := hb p r a b hm hs
      refine wpK_execs_cons (wpK_of ?_)
      k_steps
      dsimp only
      cases hn : IR.intB a with
      | none =>
        have ez : ltF x = none := by unfold ltF; rw [hm]; dsimp only; rw [hs]; dsimp only; rw [hn]
        rw [ez] at hret
        refine wpK_execs_cons (wpK_Assign_Name (wpK_Call ?_))
        k_steps
        refine wpK_callWithT ?_
        k_steps
        refine IR.wpK_int_bad (by omega) hn rfl (IR.strict_in (by k_in)) (fun h' tk e vs hx => ?_)
        k_steps
        exact end0 hret (by assumption) (by (first | (assumption) | (apply news_tail; assumption) | (apply news_tail; apply news_tail; assumption) | (apply news_tail; apply news_tail; apply news_tail; assumption) | (apply news_tail; apply news_tail; apply news_tail; apply news_tail; assumption) | (apply news_tail; apply news_tail; apply news_tail; apply news_tail; apply news_tail; assumption))) ⟨rfl, rfl⟩
      | some k =>
        have hl640 : a.length ≤ 640 := by omega
        refine wpK_execs_cons (wpK_of ?_)
        k_steps
        dsimp only
        refine wpK_execs_cons (wpK_Assign_Tuple (wpK_Call ?_))
        k_steps
        refine wpK_callWith (K := hd.heap_1 w.params) ?_ ?_
        · k_is
        k_steps
        by_cases hg : b.getD 0 0 ∈ ([43, 45] : List UInt8)
        · cases hn2 : IR.intB (b.drop 1) with
          | some n =>
            have ez : ltF x = some (p ++ [62], some (k, pzF b n)) := by unfold ltF; rw [hm]; dsimp only; rw [hs]; dsimp only; rw [hn]; dsimp only; unfold tzF; rw [if_pos hg, hn2]; rfl
            rw [ez] at hret
            refine wpK_of (con_use (parse_good w mean mg mb b _ n (by omega) hb1 hg hn2) (by k_asm) (by k_asm) (by k_asm) (by k_asm) (by k_asm) (by first | exact rfl | assumption) (by ktr_room) (by ktr_units) ?_)
            intro v new h' tk' hR F' N'
            obtain ⟨a', t', rfl, N'⟩ := get_ib hR N'
            clear hR
            k_steps
            (all_goals (try dsimp only)); (all_goals (try (refine wpK_of ?_; k_steps)))
            (all_goals (try dsimp only)); (all_goals (try (refine wpK_of ?_; k_steps)))
            (all_goals (try dsimp only)); (all_goals (try (refine wpK_of ?_; k_steps)))
            (all_goals (try dsimp only)); (all_goals (try (refine wpK_of ?_; k_steps)))
            all_goals rw [← hc2] at hret
            all_goals exact end2 hret (by assumption) (by (first | (assumption) | (apply news_mid; assumption) | (apply news_mid; apply news_mid; assumption) | (apply news_mid; apply news_mid; apply news_mid; assumption) | (apply news_mid; apply news_mid; apply news_mid; apply news_mid; assumption) | (apply news_mid; apply news_mid; apply news_mid; apply news_mid; apply news_mid; assumption) | (apply news_mid; apply news_mid; apply news_mid; apply news_mid; apply news_mid; apply news_mid; assumption))) ⟨_, _, _, _, _, rfl, rfl⟩
          | none =>
            have ez : ltF x = none := by unfold ltF; rw [hm]; dsimp only; rw [hs]; dsimp only; rw [hn]; dsimp only; unfold tzF; rw [if_pos hg, hn2]; rfl
            rw [ez] at hret
            refine wpK_call ?_
            ((refine' codeK_def ?k1_7 ?k2_7 ?k3_7 ?k4_7 ?k5_7 ?kA_7 ?kF_7 ?kK_7 ?k6_7 ?k7_7 ?k8_7 ?k9_7 ?kB_7 ?_ ?c2_7 ?c3_7 ?c4_7 ?c5_7; (case kA_7 => exact rfl); (case kF_7 => exact rfl); (case kK_7 => first | exact rfl | assumption); (case k1_7 => k_asm); (case k2_7 => k_asm); (case k3_7 => k_asm); (case k4_7 => k_asm); (case k5_7 => k_asm); (case k6_7 => k_is); (case k7_7 => k_is); (case k8_7 => k_room); (case k9_7 => exact BindsTo.of_eq rfl); (case kB_7 => exact locs rfl); (case c2_7 => exact rfl); (case c3_7 => exact rfl); (case c4_7 => exact rfl); (case c5_7 => decide); intro gz' Lz' hz' FGz' Fz' Nz' Bz' Xz' Tz'; (try dsimp only); (try k_lift Bz'); (try k_fold); refine gen_K ?_; intro _ _ _ _))
            refine wpK_execs_cons (wpK_of ?_)
            k_steps
            · dsimp only
              refine wpK_execs_cons (wpK_of ?_)
              k_steps
              dsimp only
              refine wpK_execs_cons (wpK_Assign_Name (wpK_Call ?_))
              k_steps
              refine wpK_callWithT ?_
              k_steps
              refine IR.wpK_int_bad (Nat.le_trans (BY.cut_length ..) (by omega)) (by rw [cut_from1]; exact hn2) rfl (IR.strict_in (by k_in)) (fun h' tk e vs hx => ?_)
              k_steps
              exact end0 hret (by assumption) (by (first | (assumption) | (apply news_tail; assumption) | (apply news_tail; apply news_tail; assumption) | (apply news_tail; apply news_tail; apply news_tail; assumption) | (apply news_tail; apply news_tail; apply news_tail; apply news_tail; assumption) | (apply news_tail; apply news_tail; apply news_tail; apply news_tail; apply news_tail; assumption))) ⟨rfl, rfl⟩
            all_goals exact end0 hret (by assumption) (by (first | (assumption) | (apply news_tail; assumption) | (apply news_tail; apply news_tail; assumption) | (apply news_tail; apply news_tail; apply news_tail; assumption) | (apply news_tail; apply news_tail; apply news_tail; apply news_tail; assumption) | (apply news_tail; apply news_tail; apply news_tail; apply news_tail; apply news_tail; assumption))) ⟨rfl, rfl⟩
        · have ez : ltF x = none := by unfold ltF; rw [hm]; dsimp only; rw [hs]; dsimp only; rw [hn]; dsimp only; unfold tzF; rw [if_neg hg]; rfl
          rw [ez] at hret
          refine wpK_of ?_
          k_steps
          all_goals first
            | exact absurd (by assumption) hg
            | exact end0 hret (by assumption) (by (first | (assumption) | (apply news_tail; assumption) | (apply news_tail; apply news_tail; assumption) | (apply news_tail; apply news_tail; apply news_tail; assumption) | (apply news_tail; apply news_tail; apply news_tail; apply news_tail; assumption) | (apply news_tail; apply news_tail; apply news_tail; apply news_tail; apply news_tail; assumption))) ⟨rfl, rfl⟩
end
section
open _root_.PySem _root_.PySem.W _root_.PySem.Spec _root_.PySem.Calls _root_.PyProof.Rows _root_.PySem.SeqAt
namespace EQ
section
variable {A : Around} {s : Shared}
theorem bytes_same (x : Array UInt8) (t u : Tok) : EqAt A s (.bytes x t) (.bytes x u) true := fun prog w E Q h => by
  unfold eqBool
  refine wpAny_holding ?_
  refine wpAny_ite_split (fun _ => ?_) (fun _ => ?_)
  · exact wpAny_bind (wpAny_rule (wpAny_pure h))
  · exact wpAny_bind (m := richCompare .Eq _ _) (eq_bytes (by rw [beq_self_eq_true]; exact wpAny_truthy_bool h))
theorem int_same (x : Int) (t u : Tok) : EqAt A s (.int x t) (.int x u) true := by
  have := EqAt.int_int (A := A) (s := s) x t x u
  rwa [beq_self_eq_true] at this
theorem all_true (n : Nat) : (List.range n).all (fun _ => true) = true := by simp
theorem rc_tup {l b : Addr} {vs us : List Value} (hl : s.heap.IsTuple l vs.toArray) (hb : s.heap.IsTuple b us.toArray) (hlen : vs.length = us.length) (hu : A.units < cLine)
    (he : ∀ j (h1 : j < vs.length) (h2 : j < us.length), EqAt A.in1 s vs[j] us[j] true) : RcAt A s (.ref l) (.ref b) true := by
  have := RcAt.tuples (e := fun _ => true) hl hb hu (fun j h1 h2 => by
    have h1' : j < vs.length := by simpa using h1
    have h2' : j < us.length := by simpa using h2
    simpa using he j h1' h2')
  have e : ((List.range (min vs.toArray.size us.toArray.size)).all (fun _ => true) && vs.toArray.size == us.toArray.size) = true := by
    rw [all_true, List.size_toArray, List.size_toArray, hlen]; simp
  rwa [e] at this
theorem rn_tup {l b : Addr} {vs us : List Value} (hl : s.heap.IsTuple l vs.toArray) (hb : s.heap.IsTuple b us.toArray) (hlen : vs.length = us.length) (hu : A.units < cLine)
    (he : ∀ j (h1 : j < vs.length) (h2 : j < us.length), EqAt A.in1 s vs[j] us[j] true) : RcNeAt A s (.ref l) (.ref b) false := by
  have := RcNeAt.tuples (e := fun _ => true) hl hb hu (fun j h1 h2 => by
    have h1' : j < vs.length := by simpa using h1
    have h2' : j < us.length := by simpa using h2
    simpa using he j h1' h2')
  have e : ((List.range (min vs.toArray.size us.toArray.size)).all (fun _ => true) && vs.toArray.size == us.toArray.size) = true := by
    rw [all_true, List.size_toArray, List.size_toArray, hlen]; simp
  rwa [e] at this
theorem eq_ref {l b : Addr} (h : RcAt A s (.ref l) (.ref b) true) : EqAt A s (.ref l) (.ref b) true := by
  by_cases q : l = b
  · subst q; exact EqAt.same _
  · exact .of_refs q h
end
section
variable {h₀ : Heap} {L : Addr} {s : Shared} {news : Led} {A : Around}
theorem isTup (N : News h₀ L s.heap news) {a : Addr} {vs : List Value} (h : (a, tupO vs) ∈ news) : s.heap.IsTuple a vs.toArray := ⟨_, (N _ h).1, rfl, _, rfl⟩
theorem part_ib {i : Int} {t u : Tok} {b : Bool} : ∀ j (h1 : j < [Value.int i t, .bool b].length) (h2 : j < [Value.int i u, .bool b].length), EqAt A s [Value.int i t, .bool b][j] [Value.int i u, .bool b][j] true
  | 0, _, _ => int_same i t u
  | 1, _, _ => EqAt.same _
  | n + 2, h, _ => absurd h (by simp)
theorem rc_ib (N : News h₀ L s.heap news) {a b : Addr} {i : Int} {t u : Tok} {x : Bool} (ha : (a, tupO [.int i t, .bool x]) ∈ news) (hb : (b, tupO [.int i u, .bool x]) ∈ news) (hu : A.units < cLine) : RcAt A s (.ref a) (.ref b) true :=
  rc_tup (isTup N ha) (isTup N hb) rfl hu part_ib
theorem rn_ib (N : News h₀ L s.heap news) {a b : Addr} {i : Int} {t u : Tok} {x : Bool} (ha : (a, tupO [.int i t, .bool x]) ∈ news) (hb : (b, tupO [.int i u, .bool x]) ∈ news) (hu : A.units < cLine) : RcNeAt A s (.ref a) (.ref b) false :=
  rn_tup (isTup N ha) (isTup N hb) rfl hu part_ib
theorem part_line {p : List UInt8} {t u : Tok} {x y : Value} {c d : Value} (hx : EqAt A s x y true) (hc : EqAt A s c d true) : ∀ j (h1 : j < [Value.bytes p.toArray t, x, c].length) (h2 : j < [Value.bytes p.toArray u, y, d].length), EqAt A s [Value.bytes p.toArray t, x, c][j] [Value.bytes p.toArray u, y, d][j] true
  | 0, _, _ => bytes_same _ t u
  | 1, _, _ => hx
  | 2, _, _ => hc
  | n + 3, h, _ => absurd h (by simp)
theorem part_nb {b : Bool} : ∀ j (h1 : j < [Value.none, .bool b].length) (h2 : j < [Value.none, .bool b].length), EqAt A s [Value.none, .bool b][j] [Value.none, .bool b][j] true
  | 0, _, _ => EqAt.same _
  | 1, _, _ => EqAt.same _
  | n + 2, h, _ => absurd h (by simp)
theorem line_eq (N : News h₀ L s.heap news) {o : Line} {v v' : Value} {new new' : Led} (hr : RetLine o v new) (hr' : RetLine o v' new') (h1 : ∀ p ∈ new, p ∈ news) (h2 : ∀ p ∈ new', p ∈ news) (hu : A.units + 1 < cLine) : RcAt A s v v' true ∧ RcNeAt A s v v' false := by
  have hu0 : A.units < cLine := by omega
  have hu1 : A.in1.units < cLine := hu
  match o, hr, hr' with
  | none, hr, hr' =>
    obtain ⟨rfl, rfl⟩ := hr
    obtain ⟨rfl, rfl⟩ := hr'
    exact ⟨RcAt.none_none, RcNeAt.none_none⟩
  | some (p, none), hr, hr' =>
    obtain ⟨a, b, t, rfl, rfl⟩ := hr
    obtain ⟨a', b', t', rfl, rfl⟩ := hr'
    have e := eq_ref (rc_tup (A := A.in1) (isTup N (h1 _ (.tail _ (.head _)))) (isTup N (h2 _ (.tail _ (.head _)))) rfl hu1 part_nb)
    exact ⟨rc_tup (isTup N (h1 _ (.head _))) (isTup N (h2 _ (.head _))) rfl hu0 (part_line (EqAt.same _) e), rn_tup (isTup N (h1 _ (.head _))) (isTup N (h2 _ (.head _))) rfl hu0 (part_line (EqAt.same _) e)⟩
  | some (p, some (k, z)), hr, hr' =>
    obtain ⟨a, b, t, u, x, rfl, rfl⟩ := hr
    obtain ⟨a', b', t', u', x', rfl, rfl⟩ := hr'
    have e := eq_ref (rc_ib (A := A.in1) N (h1 _ (.tail _ (.head _))) (h2 _ (.tail _ (.head _))) hu1)
    exact ⟨rc_tup (isTup N (h1 _ (.head _))) (isTup N (h2 _ (.head _))) rfl hu0 (part_line (int_same _ _ _) e), rn_tup (isTup N (h1 _ (.head _))) (isTup N (h2 _ (.head _))) rfl hu0 (part_line (int_same _ _ _) e)⟩
theorem zone_eq (N : News h₀ L s.heap news) {o : Option (Int × Bool)} {v v' : Value} {new new' : Led} (hr : RetIB o v new) (hr' : RetIB o v' new') (h1 : ∀ p ∈ new, p ∈ news) (h2 : ∀ p ∈ new', p ∈ news) (hu : A.units < cLine) : RcNeAt A s v v' false := by
  match o, hr, hr' with
  | none, hr, hr' =>
    obtain ⟨rfl, rfl⟩ := hr
    obtain ⟨rfl, rfl⟩ := hr'
    exact RcNeAt.none_none
  | some z, hr, hr' =>
    obtain ⟨a, t, rfl, rfl⟩ := hr
    obtain ⟨a', t', rfl, rfl⟩ := hr'
    exact rn_ib N (h1 _ (.head _)) (h2 _ (.head _)) hu
end
section
variable {prog : Program} {w : World} {A : Around} {E : Value → Shared → Prop} {s : Shared} {v v' : Value} {Q : Value → Shared → Prop}
theorem eq_of (h : RcAt A s v v' true) (hq : Q (.bool true) s) : wpAny (model prog w) A (compareOp .Eq v v') Q E s := h prog w E Q hq
theorem ne_of (h : RcNeAt A s v v' false) (hq : Q (.bool false) s) : wpAny (model prog w) A (compareOp .NotEq v v') Q E s := h prog w E Q hq
end
end EQ
end
section
open _root_.PySem _root_.PySem.W
noncomputable def lrF (x : List UInt8) : Line := match PL.lastMark x with
  | none => some (x, none)
  | some (p, r) => match PL.lastSp 32 r with
    | none => none
    | some (a, b) => match wholeF a with
      | none => none
      | some k => (zrF b).map fun z => (p ++ [62], some (k, z))
namespace PI
open PA
noncomputable def Fair (x : List UInt8) : Prop := ∀ p r a b, PL.lastMark x = some (p, r) → PL.lastSp 32 r = some (a, b) → (Tidy a ∨ (tzF b = none ∧ zrF b = none)) ∧ Tidy (b.drop 1)
theorem line_same {x : List UInt8} (h : Fair x) : ltF x = lrF x := by
  unfold ltF lrF
  cases hm : PL.lastMark x with
  | none => rfl
  | some z =>
    obtain ⟨p, r⟩ := z
    dsimp only
    cases hs : PL.lastSp 32 r with
    | none => rfl
    | some y =>
      obtain ⟨a, b⟩ := y
      dsimp only
      obtain ⟨h1, h2⟩ := h p r a b hm hs
      have e2 := zone_same h2
      rcases h1 with h1 | ⟨h1, h3⟩
      · rw [int_whole h1, e2]
        all_goals (cases wholeF a <;> rfl)
      · rw [h1, h3]
        all_goals (cases IR.intB a <;> cases wholeF a <;> rfl)
end PI
end
section
open _root_.PySem _root_.PySem.W _root_.PySem.NumText
namespace PJ
open PA PD PE
theorem lastSp_none {d : UInt8} : ∀ {l : List UInt8}, d ∉ l → PL.lastSp d l = none
  | [], _ => rfl
  | c :: l, h => by
    rw [PL.lastSp_cons, lastSp_none fun q => h (.tail _ q)]
    have hc : ¬ c = d := fun q => h (by rw [q]; exact .head _)
    simp only [if_neg hc]
theorem lastSp_app {d : UInt8} {z : List UInt8} (h : d ∉ z) : ∀ a : List UInt8, PL.lastSp d (a ++ d :: z) = some (a, z)
  | [] => by rw [List.nil_append, PL.lastSp_cons, lastSp_none h]; simp
  | c :: a => by rw [List.cons_append, PL.lastSp_cons, lastSp_app h a]
theorem lastMark_none : ∀ {l : List UInt8}, 62 ∉ l → PL.lastMark l = none
  | [], _ => rfl
  | c :: l, h => by
    rw [PL.lastMark_cons, lastMark_none fun q => h (.tail _ q)]
    have hc : ¬ (c = 62 ∧ l.head? = some 32) := fun q => h (by rw [q.1]; exact .head _)
    simp only [if_neg hc]
theorem lastMark_app {r : List UInt8} (h : 62 ∉ r) : ∀ p : List UInt8, PL.lastMark (p ++ 62 :: 32 :: r) = some (p, r)
  | [] => by
    rw [List.nil_append, PL.lastMark_cons, lastMark_none (l := 32 :: r) (by simpa using h)]
    simp
  | c :: p => by rw [List.cons_append, PL.lastMark_cons, lastMark_app h p]
theorem dec_mem {n : Nat} {c : UInt8} (h : c ∈ decN n) : 48 ≤ c.toNat ∧ c.toNat ≤ 57 := dec_digits n _ (List.mem_map_of_mem h)
theorem pad_mem {n : Nat} {c : UInt8} (h : c ∈ pad2 n) : 48 ≤ c.toNat ∧ c.toNat ≤ 57 := pad_digits (n := n) _ (List.mem_map_of_mem h)
noncomputable def Sign (x : List UInt8) : Prop := ∀ c ∈ x, c = 45 ∨ c = 43 ∨ (48 ≤ c.toNat ∧ c.toNat ≤ 57)
theorem sign_decI (k : Int) : Sign (decI k) := by
  intro c hc
  unfold decI at hc
  split at hc
  · rcases List.mem_cons.mp hc with rfl | hc
    · exact .inl rfl
    · exact .inr (.inr (dec_mem hc))
  · exact .inr (.inr (dec_mem hc))
theorem sign_lz {s : Int} {b : Bool} {z : List UInt8} (h : lzF s b = some z) : Sign z := by
  unfold lzF at h
  split at h
  · cases h
  injection h with h
  subst h
  intro c hc
  split at hc
  · simp only [List.mem_cons, List.mem_append] at hc
    rcases hc with rfl | rfl | hc | hc
    · exact .inl rfl
    · exact .inl rfl
    · exact .inr (.inr (dec_mem hc))
    · exact .inr (.inr (pad_mem hc))
  · simp only [List.mem_cons, List.mem_append] at hc
    rcases hc with hc | hc | hc
    · split at hc
      · exact .inl hc
      · exact .inr (.inl hc)
    · exact .inr (.inr (pad_mem hc))
    · exact .inr (.inr (pad_mem hc))
theorem sign_out {x : List UInt8} (h : Sign x) {d : UInt8} (hd : d.toNat < 43 ∨ 57 < d.toNat) : d ∉ x := fun q => by
  rcases h d q with rfl | rfl | e
  · revert hd; decide
  · revert hd; decide
  · (first | lia | omega)
theorem sign_tidy {x : List UInt8} (h : Sign x) : Tidy x := by
  have hb : ∀ c ∈ x, blank c.toNat = false := fun c hc => blank_of (by
    rcases h c hc with rfl | rfl | e
    · decide
    · decide
    · (first | lia | omega))
  refine ⟨sign_out h (by decide), fun c hc => hb c ?_, fun c hc => hb c ?_⟩
  · cases x with
    | nil => cases hc
    | cons d l => cases hc; exact .head _
  · exact List.mem_of_getLast? hc
theorem sign_drop {x : List UInt8} (h : Sign x) : Sign (x.drop 1) := fun c hc => h c (List.mem_of_mem_drop hc)
theorem int_dec (k : Int) : IR.intB (decI k) = some k := by
  rw [int_whole (sign_tidy (sign_decI k)), wholeF_bare]
  have hd := dec_digits k.natAbs
  have hv := dec_val k.natAbs
  obtain ⟨hb, n1, n2⟩ := bare_digits hd
  have hw := whole_digits _ 0 hd
  rw [show ((0 : Nat) : Int) = 0 from rfl, hv] at hw
  have hmap : (decN k.natAbs).map (fun c => (c.toNat : Int)) = ((decN k.natAbs).map (·.toNat)).map fun (c : Nat) => (c : Int) := by rw [List.map_map]; rfl
  unfold decI
  by_cases h : k < 0
  · rw [if_pos h]
    have e : bare (45 :: decN k.natAbs) = decN k.natAbs := by unfold bare; simp
    rw [e, if_neg (dec_ne _), hmap, hw]
    simp; (first | lia | omega)
  · rw [if_neg h, hb, if_neg (dec_ne _), hmap, hw]
    simp [n1]; (first | lia | omega)
theorem zone_tz {s : Int} {b : Bool} {z : List UInt8} (h : lzF s b = some z) : tzF z = some (s, b && decide (0 ≤ s)) := by
  rw [zone_same (sign_tidy (sign_drop (sign_lz h)))]
  exact zone_back h
theorem made_told {p : List UInt8} {k s : Int} {b : Bool} {z : List UInt8} (h : lzF s b = some z) :
    ltF ((p ++ [62]) ++ 32 :: (decI k ++ 32 :: z)) = some (p ++ [62], some (k, (s, b && decide (0 ≤ s)))) := by
  have e : (p ++ [62]) ++ 32 :: (decI k ++ 32 :: z) = p ++ 62 :: 32 :: (decI k ++ 32 :: z) := by simp
  have h62 : 62 ∉ decI k ++ 32 :: z := by
    intro q
    rcases List.mem_append.mp q with q | q
    · exact sign_out (sign_decI k) (by decide) q
    · rcases List.mem_cons.mp q with q | q
      · cases q
      · exact sign_out (sign_lz h) (by decide) q
  unfold ltF
  rw [e, lastMark_app h62]
  dsimp only
  rw [lastSp_app (sign_out (sign_lz h) (by decide))]
  dsimp only
  rw [int_dec, zone_tz h]
  rfl
end PJ
end
section
open _root_.PySem _root_.PySem.W _root_.PySem.NumText
namespace PK
open PA PJ
noncomputable abbrev ws (c : UInt8) : Bool := blank c.toNat
noncomputable def Adj : List UInt8 → Prop
  | c :: d :: l => (ws c = true → ws d = true → c = 10) ∧ Adj (d :: l)
  | _ => True
theorem Adj.tail {c : UInt8} {l : List UInt8} (h : Adj (c :: l)) : Adj l := by
  cases l with
  | nil => trivial
  | cons d l => exact h.2
theorem Adj.at {c d : UInt8} {v : List UInt8} : ∀ {u : List UInt8}, Adj (u ++ c :: d :: v) → ws c = true → ws d = true → c = 10
  | [], h => h.1
  | _ :: _, h => Adj.at h.tail
theorem Adj.app : ∀ {x y : List UInt8}, Adj x → Adj y → (∀ c d, x.getLast? = some c → y.head? = some d → ws c = true → ws d = true → c = 10) → Adj (x ++ y)
  | [], _, _, hy, _ => hy
  | [c], [], _, _, _ => trivial
  | [c], d :: y, _, hy, hj => ⟨hj c d rfl rfl, hy⟩
  | c :: d :: x, y, hx, hy, hj => ⟨hx.1, Adj.app (x := d :: x) hx.2 hy fun c' d' h1 h2 => hj c' d' (by rw [List.getLast?_cons_cons]; exact h1) h2⟩
theorem lastSp_free {d : UInt8} : ∀ {l a b : List UInt8}, PL.lastSp d l = some (a, b) → d ∉ b
  | [], _, _, h => nomatch h
  | c :: l, a, b, h => by
    rw [PL.lastSp_cons] at h
    cases hm : PL.lastSp d l with
    | some z =>
      rw [hm] at h
      obtain ⟨a', b'⟩ := z
      cases h
      exact lastSp_free hm
    | none =>
      rw [hm] at h
      dsimp only at h
      split at h
      · cases h
        intro q
        have : ∀ {l : List UInt8}, d ∈ l → PL.lastSp d l ≠ none := by
          intro l
          induction l with
          | nil => intro h; cases h
          | cons e l ih =>
            intro h
            rw [PL.lastSp_cons]
            cases hl : PL.lastSp d l with
            | some z => simp
            | none =>
              rcases List.mem_cons.mp h with rfl | h
              · simp
              · exact absurd hl (ih h)
        exact this q hm
      · cases h
theorem fair_of {x : List UInt8} (h95 : 95 ∉ x) (hA : Adj x) (hN : ∀ p r, x = p ++ 62 :: 32 :: r → 10 ∉ r) (hB : ∀ u v, x = u ++ 32 :: v → 32 ∉ v → ∀ c ∈ v, ws c = false) : PI.Fair x := by
  intro p r a b hm hs
  have e1 := PL.lastMark_eq hm
  have e2 := PL.lastSp_eq hs
  have e3 : x = (p ++ 62 :: 32 :: a) ++ 32 :: b := by rw [e1, e2]; simp
  have hb := hB _ _ e3 (lastSp_free hs)
  have m95 : ∀ {y : List UInt8}, (∀ c ∈ y, c ∈ x) → 95 ∉ y := fun hy q => h95 (hy _ q)
  refine ⟨.inl ⟨m95 fun c hc => ?_, fun c hc => ?_, fun c hc => ?_⟩, m95 fun c hc => ?_, fun c hc => ?_, fun c hc => ?_⟩
  · rw [e3]; simp [hc]
  · cases a with
    | nil => cases hc
    | cons d a =>
      cases hc
      cases hw : ws c with
      | false => exact hw
      | true =>
        have e4 : x = (p ++ [62]) ++ 32 :: c :: (a ++ 32 :: b) := by rw [e1, e2]; simp
        have := Adj.at (e4 ▸ hA) (by decide) hw
        cases this
  · cases hw : ws c with
    | false => exact hw
    | true =>
      obtain ⟨a', rfl⟩ : ∃ a', a = a' ++ [c] := by
        have := List.getLast?_eq_some_iff.mp hc
        obtain ⟨ys, h⟩ := this
        exact ⟨ys, h⟩
      have e4 : x = (p ++ 62 :: 32 :: a') ++ c :: 32 :: b := by rw [e1, e2]; simp
      have := Adj.at (e4 ▸ hA) hw (by decide)
      subst this
      exact absurd (by rw [e2]; simp) (hN p r e1)
  · rw [e3]; simp [List.mem_of_mem_drop hc]
  · have : c ∈ b.drop 1 := by
      cases hd : b.drop 1 with
      | nil => rw [hd] at hc; cases hc
      | cons d l => rw [hd] at hc; cases hc; exact .head _
    exact hb c (List.mem_of_mem_drop this)
  · exact hb c (List.mem_of_mem_drop (List.mem_of_getLast? hc))
end PK
end
section
open _root_.PySem _root_.PySem.W _root_.PySem.Spec _root_.PySem.Calls _root_.PyProof.Rows
section
open _root_.PySem _root_.PySem.W _root_.PySem.Spec _root_.PySem.Calls _root_.PyProof.Rows
theorem told_C5 : True := by
  k_with_none
  w_top off
  k_with "own omega" => (with_reducible first | exact om6 (by assumption) rfl | exact om0 (by assumption) | exact om2 (by assumption) rfl | exact om3 (by assumption) rfl | exact om4 (by assumption) rfl | exact Int.emod_nonneg _ (by decide) | exact Int.emod_lt_of_pos _ (by decide) | exact om8 (by assumption) rfl | exact om9 (by assumption) rfl)
  k_with "storeName" => ((k_here; k_dflt (first | ((with_reducible show wpAny _ _ (storeName _ _ (Value.int _ _)) _ _ _); refine storeG_int (by k_asm) (by k_asm) ?_ (by rfl) (by rfl); intro hq9 tq9 kq9 Fq9 Nq9) | ((with_reducible show wpAny _ _ (storeName _ _ (Value.bytes _ _)) _ _ _); refine storeG_bytes (by k_asm) (by k_asm) ?_ (by rfl) (by rfl); intro hq9 tq9 kq9 Fq9 Nq9) | (refine storeG_any (by k_asm) (by k_asm) ?_ (by rfl) (by rfl); intro hq9 kq9 Fq9 Nq9)); (try k_sweep)))
  k_with "Go" => (refine go_on (by assumption) ?_)
  k_with "own kby_size" => ((first | assumption | omega | (simp only [List.length_append, List.length_cons, List.length_nil] at *; omega)))
  k_with "subscriptTail" => ((k_here; (with_reducible show wpAny _ _ (subscriptTail _ (Expr.Slice _ _ none _) (Value.bytes (List.toArray _) _) (Value.ref _)) _ _ _); (with_reducible rename Fr _ _ _ _ => Fq9); (with_reducible rename News _ _ _ _ => Nq9); (refine BY.slice_L (s := ⟨_, _, _, _, _⟩) Fq9 Nq9 (by constructor) (by constructor) (by kby_size) ?_); intro _ _ _ Fq9 Nq9 hlenq9))
  k_with "binaryOp Add bytes bytes" => ((k_here; (with_reducible show wpAny _ _ (binaryOp Operator.Add (Value.bytes (List.toArray _) _) (Value.bytes (List.toArray _) _)) _ _ _); (refine BY.add_L (by kby_size) ?_); intro _ _))
  k_with "compareOp Eq bytes bytes" => ((k_here; (with_reducible show wpAny _ _ (compareOp CmpOp.Eq (Value.bytes (List.toArray _) _) (Value.bytes (List.toArray _) _)) _ _ _); (refine BY.eq_L ?_)))
  k_with "compareOp NotEq bytes bytes" => ((k_here; (with_reducible show wpAny _ _ (compareOp CmpOp.NotEq (Value.bytes (List.toArray _) _) (Value.bytes (List.toArray _) _)) _ _ _); (refine BY.ne_L ?_)))
  k_with "subscriptTail" => ((k_here; (with_reducible show wpAny _ _ (subscriptTail _ _ (Value.bytes (List.toArray _) _) (Value.int _ _)) _ _ _); (refine BY.item_L (by kby_size) (by first | decide | omega) (by first | omega | (simp only [List.length_append, List.length_cons, List.length_nil] at *; omega)) ?_); intro _ _))
  k_with "compareOp NotIn int bytes" => ((k_here; (with_reducible show wpAny _ _ (compareOp CmpOp.NotIn (Value.int _ _) (Value.bytes (List.toArray _) _)) _ _ _); (refine BY.notIn_B ?_)))
  k_with "call type:int" => ((k_here; (with_reducible show wpAny _ _ (call (Value.type "int") [Value.bytes (List.toArray _) _]) _ _ _); (refine IR.call_int_bytes (by assumption) (by assumption) ?_)))
  k_with "getMethod bytes" => ((k_here; first | (with_reducible refine BW.meth_rindex ?_) | (with_reducible refine BW.meth_rsplit ?_) | (with_reducible refine BW.meth_split ?_) | (with_reducible refine BW.meth_join ?_)))
  k_with "call builtin:bytes.rindex" => ((k_here; first
  | (refine BW.rindex_found (by with_reducible assumption) ?_; intro _ _)
  | (refine BW.rindex_not (by with_reducible assumption) (by first | exact rfl | assumption) ?_; intro _ _ _ _ hxq9)))
  k_with "call builtin:bytes.rsplit" => ((k_here; first
  | (refine BW.rsplit_two (by k_asm) (by k_asm) (by kby_size) (by with_reducible assumption) ?_; intro Dq9 t1q9 t2q9 hq9 kq9 Fq9 Nq9 l1q9; (try k_lt l1q9))
  | (refine BW.rsplit_one (by k_asm) (by k_asm) (by kby_size) (by with_reducible assumption) ?_; intro Dq9 t1q9 hq9 kq9 Fq9 Nq9 l1q9; (try k_lt l1q9))))
  k_with "call builtin:bytes.split" => ((k_here; (refine BW.split_L (by k_asm) (by k_asm) (by kby_size) ?_); intro Dq9 vsq9 hq9 kq9 hvsq9 Fq9 Nq9 l1q9; (try k_lt l1q9)))
  k_with "call builtin:bytes.join" => ((k_here; (refine BW.join_L (News.isList (by k_asm) (by k_mem)) (by with_reducible assumption) (by kby_size) ?_); intro _ _))
  k_with "assign Tuple" => ((k_here; (with_reducible show wpAny _ _ (assign (Expr.Tuple _ _ _) _ (Value.ref _)) _ _ _); (refine BW.unpack_one (News.isList (by k_asm) (by k_mem)) (by exact rfl) (by exact rfl) (by exact rfl) ?_); intro _ _ _ _ hxq9))
  k_with "subscriptTail" => ((k_here; (with_reducible show wpAny _ _ (subscriptTail _ _ (Value.ref _) (Value.int _ _)) _ _ _); (refine BW.item_BL (News.isList (by k_asm) (by k_mem)) (by with_reducible assumption) (by first | assumption | omega) (by first | assumption | omega) (by first | assumption | omega) ?_); intro _))
  k_with "noteFrame ref" => ((k_here; k_dflt ((with_reducible rename Heap.MadeExc _ _ _ _ _ => hxMq9); (refine look_made2 (Heap.MadeExc.of hxMq9) (by k_asm) (by k_asm) (by assumption) ?_); clear hxMq9; intro hq9 tq9 Gq9 Fq9 Rq9 alq9 Uq9; (try dsimp only at Rq9 Uq9 ⊢))))
  k_with "leaving ref" => ((k_here; k_dflt ((with_reducible rename KtsDicts _ _ => kdX); (with_reducible rename Heap.MadeExc _ _ _ _ _ => hxMq9); (refine leave_raise2 (by assumption) (Heap.MadeExc.of hxMq9) (by assumption) (by k_asm) ?_); intro hq9 tq9 Sq9 alq9 Uq9; (have Rq9 := RaisedS.toK Sq9); (try dsimp only at Sq9 Rq9 Uq9 ⊢))))
  k_with "noteFrame ref" => ((k_here; k_dflt ((rename RaisedS _ _ _ _ _ _ _ _ _ => rsX); (with_reducible rename Alone _ _ => alX); (with_reducible show wpAny _ _ (noteFrame _ _) (fun _ s₂ => wpAny _ _ (setFlight _ none) (fun _ s₃ => wpAny _ _ (handleBy _ _ [ExceptHandler.ExceptHandler _ (some _) [Stmt.Raise (some _) (some _) _] _]) _ _ s₃) _ s₂) _ _); (refine look_on2 rsX alX (by assumption) (by assumption) ?_); intro hq9 Rq9 alq9 Uq9; (try dsimp only at Rq9 Uq9 ⊢))))
  k_with "handleBy ref" => ((k_here; k_dflt ((with_reducible rename Alone _ _ => alX); (refine hit2 (by assumption) alX (by assumption) (by assumption) (by assumption) (by assumption) (by assumption) (by assumption) (by kts_test) PySem.F.excBase_Exception PySem.F.excRaise_ValueError (by k_is) (by k_exc) ?_ (fun _ _ hh => hh)); intro hq9 tkq9 e2q9 t2q9 Rq9 RKq9 Uq9; (try dsimp only at Rq9 RKq9 Uq9 ⊢))))
  k_with "getMethod str" => ((k_here; (with_reducible refine BE.meth_encode ?_)))
  trivial
set_option maxHeartbeats 1000000 in
theorem late_con (w : World) (mean : ExcName → Option Value) (mg mb : Str → Option Value) (x : Int) (t : Tok) :
    ConL w mean mg mb 194 [.int x t] (fun v new => v = .bool (decide (x > 9223372036854775807)) ∧ new = []) := by
  unfold ConL
  k_fill
  intro cn cs a ccd h₀ L m news s Q E B F X N T hk hret
  refine wpK_call ?_
  ((refine' codeK_defS0 ?k1_11 ?k2_11 ?k3_11 ?k4_11 ?k5_11 ?kA_11 ?k6_11 ?k7_11 ?k8_11 ?k9_11 ?kB_11 ?_ ?cK_11 ?c2_11 ?c3_11 ?c4_11 ?c5_11; (case kA_11 => exact rfl); (case k2_11 => k_asm); (case k1_11 => k_asm); (case k3_11 => k_asm); (case k4_11 => k_asm); (case k5_11 => k_asm); (case k6_11 => k_is); (case k7_11 => k_is); (case k8_11 => k_room); (case k9_11 => exact BindsTo.of_eq rfl); (case kB_11 => exact locs rfl); (case cK_11 => first | assumption | exact rfl); (case c2_11 => exact rfl); (case c3_11 => exact rfl); (case c4_11 => exact rfl); (case c5_11 => decide); intro gz' Lz' hz' FGz' Fz' Nz' Bz' Xz' Tz' Dz'; (try dsimp only); (try k_lift Bz'); (try k_fold)))
  refine wpK_of ?_
  by_cases hg : x > 9223372036854775807
  · k_steps
    all_goals first
      | (exfalso; omega)
      | (refine end0 hret (by assumption) (by (first | (assumption) | (apply news_tail; assumption) | (apply news_tail; apply news_tail; assumption) | (apply news_tail; apply news_tail; apply news_tail; assumption) | (apply news_tail; apply news_tail; apply news_tail; apply news_tail; assumption) | (apply news_tail; apply news_tail; apply news_tail; apply news_tail; apply news_tail; assumption))) ⟨?_, rfl⟩; rw [decide_eq_true hg])
  · k_steps
    all_goals first
      | (exfalso; omega)
      | (refine end0 hret (by assumption) (by (first | (assumption) | (apply news_tail; assumption) | (apply news_tail; apply news_tail; assumption) | (apply news_tail; apply news_tail; apply news_tail; assumption) | (apply news_tail; apply news_tail; apply news_tail; apply news_tail; assumption) | (apply news_tail; apply news_tail; apply news_tail; apply news_tail; apply news_tail; assumption))) ⟨?_, rfl⟩; rw [decide_eq_false hg])
end
section
open _root_.PySem _root_.PySem.W _root_.PySem.Spec _root_.PySem.Calls _root_.PyProof.Rows
section
open _root_.PySem _root_.PySem.W _root_.PySem.Spec _root_.PySem.Calls _root_.PyProof.Rows
theorem told_C6 : True := by
  w_top off
  k_with "binaryOp Mod str ref" => ((k_here; (with_reducible show wpAny _ _ (binaryOp Operator.Mod (Value.str _ _) (Value.ref _)) _ _ _); k_dflt ((refine BF.fmt_rule (by k_asm) (by k_mem) (by decide +kernel) (by first | exact PG.fd1 (by omega) | exact PG.fd2 (by omega)) PG.fd3 ?_); intro _ _)))
  k_with "call builtin:str.encode" => ((k_here; k_dflt ((refine BE.encode (BF.ascii_fmt _ _ (by decide +kernel)) (BF.size_fmt (by decide +kernel) (by first | exact PG.fd1 (by omega) | exact PG.fd2 (by omega)) PG.fd3) ?_); intro _ _)))
  trivial
noncomputable def RetB (o : Option (List UInt8)) (v : Value) (new : Led) : Prop := match o with
  | none => v = .none ∧ new = []
  | some y => ∃ t, v = .bytes y.toArray t ∧ new = []
set_option maxHeartbeats 1000000 in
theorem format_good (w : World) (mean : ExcName → Option Value) (mg mb : Str → Option Value) (n : Int) (tn : Tok) (hb : n.natAbs < 10 ^ 60) (h60 : n.fmod 60 = 0) (b : Bool) (hp : b = true → PF.plainF n = true) :
    Con w mean mg mb 1 61 [.int n tn, .bool b] (RetB (lzF n b)) := by
  unfold Con
  k_fill
  intro dp un gd cn cs a ccd cl outer A₀ base h₀ L m news s Q E B F X N T hk hd hu hret
  refine wpAny_call ?_
  w_strict (k_dflt ((refine' code_def ?k1 ?k2 ?k3 ?k4 ?k5 ?kA ?kF ?kK ?k6 ?k7 ?k8 ?k9 ?kB ?_ ?c2 ?c3 ?c4 ?c5; (case kA => exact rfl); (case kF => exact rfl); (case kK => assumption); (case k1 => k_asm); (case k2 => k_asm); (case k3 => k_asm); (case k4 => k_asm); (case k5 => k_asm); (case k6 => k_is); (case k7 => k_is); (case k8 => ktr_room); (case k9 => exact binds_K (by k_in) rfl (by k_is) rfl rfl rfl); (case c5 => decide); (case kB => exact locs rfl); (case c2 => exact rfl); (case c3 => exact rfl); (case c4 => exact rfl); k_whole; intro g' L' h' FG' F' N' B' X' T'; (try dsimp only); (try k_lift B'); (try k_fold))); k_steps)
  all_goals first
    | (exfalso; exact absurd h60 (by assumption))
    | (rw [PG.e_neg h60 (by assumption)] at hret; exact end0 hret (by assumption) (by (first | (assumption) | (apply news_tail; assumption) | (apply news_tail; apply news_tail; assumption) | (apply news_tail; apply news_tail; apply news_tail; assumption) | (apply news_tail; apply news_tail; apply news_tail; apply news_tail; assumption) | (apply news_tail; apply news_tail; apply news_tail; apply news_tail; apply news_tail; assumption))) ⟨_, rfl, rfl⟩)
    | (have hbt : b = true := by assumption
       subst hbt
       rw [PG.e_zero (by assumption) (by assumption)] at hret
       exact end0 hret (by assumption) (by (first | (assumption) | (apply news_tail; assumption) | (apply news_tail; apply news_tail; assumption) | (apply news_tail; apply news_tail; apply news_tail; assumption) | (apply news_tail; apply news_tail; apply news_tail; apply news_tail; assumption) | (apply news_tail; apply news_tail; apply news_tail; apply news_tail; apply news_tail; assumption))) ⟨_, rfl, rfl⟩)
    | (have hbt : b = true := by assumption
       subst hbt
       rw [PG.e_two h60 (by assumption) (by assumption) (hp rfl)] at hret
       exact end0 hret (by assumption) (by (first | (assumption) | (apply news_tail; assumption) | (apply news_tail; apply news_tail; assumption) | (apply news_tail; apply news_tail; apply news_tail; assumption) | (apply news_tail; apply news_tail; apply news_tail; apply news_tail; assumption) | (apply news_tail; apply news_tail; apply news_tail; apply news_tail; apply news_tail; assumption))) ⟨_, rfl, rfl⟩)
    | (have hbt : b = false := by assumption
       subst hbt
       rw [PG.e_pos h60 (by assumption)] at hret
       exact end0 hret (by assumption) (by (first | (assumption) | (apply news_tail; assumption) | (apply news_tail; apply news_tail; assumption) | (apply news_tail; apply news_tail; apply news_tail; assumption) | (apply news_tail; apply news_tail; apply news_tail; apply news_tail; assumption) | (apply news_tail; apply news_tail; apply news_tail; apply news_tail; apply news_tail; assumption))) ⟨_, rfl, rfl⟩)
end
section
open _root_.PySem _root_.PySem.W _root_.PySem.Spec _root_.PySem.Calls _root_.PyProof.Rows
section
open _root_.PySem _root_.PySem.W _root_.PySem.Spec _root_.PySem.Calls _root_.PyProof.Rows
theorem told_C4A : True := by
  w_top off
  k_with "call type:str" => ((k_here; k_dflt (refine P.str_of_int (BF.log_lt (by omega)) ?_)))
  k_with "call builtin:str.encode" => ((k_here; k_dflt ((refine BE.encode (BF.ascii_int _) (PH.size_int (by omega)) ?_); intro _ _)))
  k_with "call builtin:bytes.join" => ((k_here; k_dflt ((refine BW.join_L (News.isList (by k_asm) (by k_mem)) (bytesAre_cons (bytesAre_cons (bytesAre_cons bytesAre_nil))) (PH.join3 (by assumption) (Nat.le_trans (PH.octs_int_len (by omega)) (by decide)) (Nat.le_trans (PH.octs_fmt_len (by decide +kernel) (by first | exact PG.fd1 (by omega) | exact PG.fd2 (by omega)) PG.fd3) (by decide))) ?_); intro _ _)))
  trivial
local macro_rules | `(tactic| walk_at "pyIter ref") => `(tactic| (k_here; refine hold ?_))
theorem told_C4A_6 : True := by
  k_with "subscriptTail" => ((k_here; (with_reducible show wpAny _ _ (subscriptTail _ _ (Value.bytes (List.toArray _) _) (Value.int _ _)) _ _ _); refine hold ?_))
  trivial
theorem idx_lo {Y : List UInt8} {k : Int} {n : Nat} (h : k = 0 + (n : Int)) (hl : n < ((Y.toArray.size : Int) - 0).toNat) : (0 : Int) ≤ (Y.toArray.size : Int) - 1 - k := by
  rw [h, Int.zero_add]; exact Int.sub_nonneg_of_le (Int.le_sub_one_of_lt (Int.ofNat_lt.mpr (toN hl)))
theorem idx_hi {Y : List UInt8} {k : Int} {n : Nat} (h : k = 0 + (n : Int)) (hl : n < ((Y.toArray.size : Int) - 0).toNat) : (Y.toArray.size : Int) - 1 - k < (Y.length : Int) := by
  rw [h, Int.zero_add]; exact Int.lt_of_le_of_lt (Int.sub_le_self _ (Int.natCast_nonneg n)) (Int.sub_lt_self _ (by decide))
theorem idx_at {Y : List UInt8} {k : Int} {n : Nat} (h : k = 0 + (n : Int)) (hn : n < Y.length) : ((Y.toArray.size : Int) - 1 - k).toNat = Y.length - 1 - n := by
  rw [h, Int.zero_add, show ((Y.toArray.size : Int) - 1) = ((Y.length - 1 : Nat) : Int) from (Int.natCast_sub (Nat.lt_of_le_of_lt (Nat.zero_le n) hn)).symm]; exact Int.toNat_sub _ _
structure ZOk (Y : List UInt8) (pre : List Int) (s w : Int) : Prop where
  h1 : readZ 0 0 ((figs Y).take pre.length) = some s
  h2 : w = wt pre.length
theorem readZ_app : ∀ (l r : List Int) (i : Nat) (s : Int), readZ i s (l ++ r) = (readZ i s l).bind fun s' => readZ (i + l.length) s' r
  | [], r, i, s => rfl
  | c :: l, r, i, s => by
    show (if c - 48 < 0 ∨ 9 < c - 48 then none else readZ (i + 1) (s + (c - 48) * wt i) (l ++ r)) = (if c - 48 < 0 ∨ 9 < c - 48 then none else readZ (i + 1) (s + (c - 48) * wt i) l).bind _
    split
    · rfl
    · rw [readZ_app l r, show i + 1 + l.length = i + (c :: l).length by rw [List.length_cons, Nat.add_assoc, Nat.add_comm 1]]
theorem figs_len (Y : List UInt8) : (figs Y).length = Y.length := by simp [figs]
theorem figs_at {Y : List UInt8} {k c : Int} {n : Nat} (h : k = 0 + (n : Int)) (hl : n < ((Y.toArray.size : Int) - 0).toNat) (hc : (((Y.getD ((Y.toArray.size : Int) - 1 - k).toNat 0).toNat : Nat) : Int) = c) :
    ∃ r, figs Y = (figs Y).take n ++ c :: r := by
  have hn : n < (figs Y).length := by rw [figs_len]; exact toN hl
  refine ⟨(figs Y).drop (n + 1), ?_⟩
  have e2 : (figs Y)[n] = c := by
    rw [← hc]
    simp only [figs, List.getElem_reverse, List.getElem_map, List.length_map]
    have e3 := idx_at h (toN hl)
    rw [e3, List.getD_eq_getElem?_getD, List.getElem?_eq_getElem (Nat.lt_of_le_of_lt (Nat.sub_le _ _) (Nat.sub_lt (Nat.lt_of_le_of_lt (Nat.zero_le n) (toN hl)) (by decide)))]
    rfl
  rw [← e2, List.getElem_cons_drop, List.take_append_drop]
theorem zr_bad {Y : List UInt8} {pre : List Int} {s w k c : Int} (h : k = 0 + (pre.length : Int)) (hl : pre.length < ((Y.toArray.size : Int) - 0).toNat) (hc : (((Y.getD ((Y.toArray.size : Int) - 1 - k).toNat 0).toNat : Nat) : Int) = c)
    (hz : ZOk Y pre s w) (hb : c - 48 < 0 ∨ 9 < c - 48) : readZ 0 0 (figs Y) = none := by
  obtain ⟨r, e⟩ := figs_at h hl hc
  rw [e, readZ_app, hz.h1]
  show (if c - 48 < 0 ∨ 9 < c - 48 then none else _) = none
  rw [if_pos hb]
theorem zr_go {Y : List UInt8} {pre : List Int} {s w k c : Int} (h : k = 0 + (pre.length : Int)) (hl : pre.length < ((Y.toArray.size : Int) - 0).toNat) (hc : (((Y.getD ((Y.toArray.size : Int) - 1 - k).toNat 0).toNat : Nat) : Int) = c)
    (hz : ZOk Y pre s w) (h1 : ¬ c - 48 < 0) (h2 : ¬ 9 < c - 48) : readZ 0 0 ((figs Y).take (pre ++ [k]).length) = some (s + (c - 48) * w) := by
  obtain ⟨r, e⟩ := figs_at h hl hc
  have hn : pre.length < (figs Y).length := by rw [figs_len]; exact toN hl
  have e2 : (figs Y).take (pre ++ [k]).length = (figs Y).take pre.length ++ [c] := by
    have hlen : ((figs Y).take pre.length).length = pre.length := by rw [List.length_take]; exact Nat.min_eq_left (Nat.le_of_lt hn)
    conv => lhs; rw [e]
    rw [List.length_append, show [k].length = 1 from rfl, show pre.length + 1 = ((figs Y).take pre.length).length + 1 by rw [hlen], List.take_length_add_append]; rfl
  rw [e2, readZ_app, hz.h1]
  have hlen : ((figs Y).take pre.length).length = pre.length := by rw [List.length_take]; exact Nat.min_eq_left (Nat.le_of_lt hn)
  show readZ (0 + ((figs Y).take pre.length).length) s [c] = _
  show (if c - 48 < 0 ∨ 9 < c - 48 then none else some (s + (c - 48) * wt (0 + ((figs Y).take pre.length).length))) = _
  rw [if_neg (fun q => q.elim h1 h2), hlen, Nat.zero_add, ← hz.h2]
theorem zr_turn1 {Y : List UInt8} {pre : List Int} {s w k c : Int} (h : k = 0 + (pre.length : Int)) (hl : pre.length < ((Y.toArray.size : Int) - 0).toNat) (hc : (((Y.getD ((Y.toArray.size : Int) - 1 - k).toNat 0).toNat : Nat) : Int) = c)
    (hz : ZOk Y pre s w) (h1 : ¬ c - 48 < 0) (h2 : ¬ 9 < c - 48) (h3 : k < 2) : ZOk Y (pre ++ [k]) (s + (c - 48) * w) (([600, 3600] : List Int).getD k.toNat 0) := by
  refine ⟨zr_go h hl hc hz h1 h2, ?_⟩
  have : pre.length = 0 ∨ pre.length = 1 := by
    rw [h, Int.zero_add] at h3
    exact (Nat.lt_succ_iff_lt_or_eq.mp (Int.ofNat_lt.mp h3)).imp_left Nat.lt_one_iff.mp
  rcases this with q | q <;> rw [List.length_append, q, h, q] <;> rfl
theorem zr_turn2 {Y : List UInt8} {pre : List Int} {s w k c : Int} (h : k = 0 + (pre.length : Int)) (hl : pre.length < ((Y.toArray.size : Int) - 0).toNat) (hc : (((Y.getD ((Y.toArray.size : Int) - 1 - k).toNat 0).toNat : Nat) : Int) = c)
    (hz : ZOk Y pre s w) (h1 : ¬ c - 48 < 0) (h2 : ¬ 9 < c - 48) (h3 : ¬ k < 2) : ZOk Y (pre ++ [k]) (s + (c - 48) * w) (w * 10) := by
  refine ⟨zr_go h hl hc hz h1 h2, ?_⟩
  obtain ⟨n, q⟩ : ∃ n, pre.length = n + 2 := ⟨pre.length - 2, by rw [h, Int.zero_add] at h3; exact (Nat.sub_add_cancel (Int.ofNat_le.mp (Int.not_lt.mp h3))).symm⟩
  rw [List.length_append, hz.h2, q]; rfl
theorem zr_end {Y : List UInt8} {s w : Int} (h : ZOk Y (rangeKs 0 ((Y.toArray.size : Int) - 0).toNat) s w) : readZ 0 0 (figs Y) = some s := by
  have := h.h1
  rwa [rangeKs_length, List.take_of_length_le (by rw [figs_len, Int.sub_zero]; exact Nat.le_refl _)] at this
theorem zr_start {Y : List UInt8} : ZOk Y [] 0 60 := ⟨rfl, rfl⟩
theorem zr_gen {x Y : List UInt8} (m w2 : Bool) (h1 : x.take 1 = if m then [45] else [43]) (h2 : decide ((x.drop 1).take 1 = [45]) = w2) (hY : PA.bare (x.drop 1) = Y) :
    (Y = [] → zrF x = none) ∧ (readZ 0 0 (figs Y) = none → zrF x = none) ∧ (Y ≠ [] → ∀ s, readZ 0 0 (figs Y) = some s → zrF x = some (if (m != w2) then -s else s, m && (decide (s = 0) || !(m != w2)))) := by
  have e : zrF x = if Y = [] then none else (readZ 0 0 (figs Y)).map fun s => (if (m != w2) then -s else s, m && (decide (s = 0) || !(m != w2))) := by
    unfold zrF
    rw [hY, h2]
    have h3 : decide (x.take 1 = [45]) = m := by rw [h1]; cases m <;> rfl
    have h4 : x.take 1 = [45] ∨ x.take 1 = [43] := by rw [h1]; cases m <;> simp
    rw [if_pos h4, h3]
  refine ⟨fun h => by rw [e, if_pos h], fun h => ?_, fun h s hs => by rw [e, if_neg h, hs]; rfl⟩
  rw [e, h]; split <;> rfl
theorem zr_no {x : List UInt8} (h1 : ¬ BY.cut none (some 1) x = [45]) (h2 : BY.cut none (some 1) x ≠ [43]) : zrF x = none := by
  rw [cut_to1] at h1 h2
  unfold zrF; rw [if_neg (by rintro (h | h); exact h1 h; exact h2 h)]
theorem bare_in {y : List UInt8} (h : BY.cut none (some 1) y = [45] ∨ BY.cut none (some 1) y = [43]) : PA.bare y = BY.cut (some 1) none y := by
  rw [cut_to1] at h; rw [cut_from1]; unfold PA.bare; rw [if_pos h]
theorem bare_no {y : List UInt8} (h1 : ¬ BY.cut none (some 1) y = [45]) (h2 : ¬ BY.cut none (some 1) y = [43]) : PA.bare y = y := by
  rw [cut_to1] at h1 h2; unfold PA.bare; rw [if_neg (by rintro (h | h); exact h1 h; exact h2 h)]
theorem news_one2 {h₀ h : Heap} {L : Addr} {q a b : Addr × Obj} {l : Led} (N : News h₀ L h (q :: a :: b :: l)) : News h₀ L h (q :: l) := fun p hp => N p (by rcases List.mem_cons.mp hp with rfl | hp; exact .head _; exact .tail _ (.tail _ (.tail _ hp)))
theorem sign_of {x : List UInt8} (h : ¬ BY.cut none (some 1) x ≠ [43]) : BY.cut none (some 1) x = [43] := Classical.byContradiction h
theorem told_C4A_7 : True := by
  k_with "own kst_p" => (with_reducible exact zr_start)
  k_with "InvEndN" => ((refine hold ?_))
  trivial
noncomputable def ZrPost (g : Heap) (L' : Addr) (s : Shared) (Y : List UInt8) (m' : Str → Option Value) (news : Led) (f : Flow) (s' : Shared) : Prop :=
  (f = .ret .none ∧ readZ 0 0 (figs Y) = none ∧ ∃ m, Leaves g L' s s' m news) ∨
  (f = .next ∧ ∃ (total : Int) (u : Str → Option Value) (t : Tok), readZ 0 0 (figs Y) = some total ∧ Leaves g L' s s' (fun y => if y = Str.ofString "place" then u y else if y = Str.ofString "seconds" then some (.int total t) else if y = Str.ofString "weight" then u y else if y = Str.ofString "figure" then u y else m' y) news)
@[elab_as_elim] theorem ZrPost.use {g : Heap} {L' : Addr} {s : Shared} {Y : List UInt8} {m' : Str → Option Value} {news : Led} {f : Flow} {s' : Shared} {C : Flow → Shared → Prop} (q : ZrPost g L' s Y m' news f s')
    (k1 : ∀ (m : Str → Option Value) (h' : Heap) (tk : Nat), readZ 0 0 (figs Y) = none → Fr g L' h' m → News g L' h' news → C (.ret .none) { s with heap := h', toks := tk })
    (k2 : ∀ (total : Int) (u : Str → Option Value) (t : Tok) (h' : Heap) (tk : Nat), readZ 0 0 (figs Y) = some total → Fr g L' h' (fun y => if y = Str.ofString "place" then u y else if y = Str.ofString "seconds" then some (.int total t) else if y = Str.ofString "weight" then u y else if y = Str.ofString "figure" then u y else m' y) → News g L' h' news → C .next { s with heap := h', toks := tk }) : C f s' := by
  rcases q with ⟨rfl, hz, m, h', tk, rfl, F, N⟩ | ⟨rfl, total, u, t, hz, h', tk, rfl, F, N⟩
  · exact k1 m h' tk hz F N
  · exact k2 total u t h' tk hz F N
theorem zr_post {g h' : Heap} {L : Addr} {s : Shared} {tk : Nat} {m₁ m' : Str → Option Value} {news : Led} {total : Int} {t : Tok} {Y : List UInt8} (hr : readZ 0 0 (figs Y) = some total) (F : Fr g L h' m₁) (N : News g L h' news) (e : m₁ (Str.ofString "seconds") = some (.int total t))
    (h : ∀ y, y ≠ Str.ofString "place" → y ≠ Str.ofString "seconds" → y ≠ Str.ofString "weight" → y ≠ Str.ofString "figure" → m₁ y = m' y) : ZrPost g L s Y m' news .next { s with heap := h', toks := tk } := by
  refine .inr ⟨rfl, total, m₁, t, hr, h', tk, rfl, fr_ext F fun y => ?_, N⟩
  by_cases h1 : y = Str.ofString "place"
  · simp only [if_pos h1]
  by_cases h2 : y = Str.ofString "seconds"
  · subst h2
    rw [if_neg h1, if_pos rfl, e]
  by_cases h3 : y = Str.ofString "weight"
  · simp only [if_neg h1, if_neg h2, if_pos h3]
  by_cases h4 : y = Str.ofString "figure"
  · simp only [if_neg h1, if_neg h2, if_neg h3, if_pos h4]
  simp only [if_neg h1, if_neg h2, if_neg h3, if_neg h4, h y h1 h2 h3 h4]
set_option maxHeartbeats 1000000 in
theorem zr_for (w : World) (mean : ExcName → Option Value) (mg mb : Str → Option Value) (dp un : Nat) (gd : Option (List Code)) (cn : Str) (cs : Scope) (a : Addr) (ccd : Value) (cl : List (Str × Addr)) (outer : List Env) (base h₀ g : Heap) (L L' : Addr) (m m' : Str → Option Value) (news : Led) (s : Shared) (t0 t1 t2 : Tok) (Y : List UInt8) (hY : Y.length ≤ 600) :
    ∀ (st : Stmt) (hst : st = stAt w 145 7) (sc : Scope) (hsc : sc = scopeAt w 145)
    (hdp : dp + 1 < recursionLimit) (hun : un + 8 * 1 < cLine)
    (FG : Fr h₀ L g m) (B : Below (ktrTop dp un gd cn cs L a ccd cl outer) base (envX cn cs L a ccd cl :: outer) g) (X : (hd.heap_1 w.params).In g) (T : Top hd.view_1 (looseW hd.view_1 [Str.ofString "format_timezone"]) mean mg mb g)
    (F : Fr g L' s.heap (fun y => if y = Str.ofString "weight" then some (.int 60 t2) else if y = Str.ofString "seconds" then some (.int 0 t1) else if y = Str.ofString "figures" then some (.bytes Y.toArray t0) else m' y)) (N : News g L' s.heap news),
    wpAny (model Challenge.rw_ai0005_01.row.prog w) ((ktrTop dp un gd cn cs L a ccd cl outer).deeper (envOf (Str.ofString "_law_zone_read") sc L' 145 (.ref 144))) (exec st (envOf (Str.ofString "_law_zone_read") sc L' 145 (.ref 144)))
      (ZrPost g L' s Y (fun y => if y = Str.ofString "weight" then some (.int 60 t2) else if y = Str.ofString "seconds" then some (.int 0 t1) else if y = Str.ofString "figures" then some (.bytes Y.toArray t0) else m' y) news) (fun _ _ => False) s := by
  k_fill
  intro st hst sc hsc hdp hun FG B X T F N
  conv at hst => rhs; whnf
  conv at hsc => rhs; whnf
  subst hst hsc
  k_steps
  unfold Hold
  k_state (fun pre seconds weight => ZOk Y pre seconds weight) "seconds" "weight"
  · k_steps
    unfold Hold
    refine BY.item_L (Nat.le_trans hY (by decide)) (idx_lo kEq kLt) (idx_hi kEq kLt) ?_
    intro _ _
    generalize hc : ((List.getD Y _ 0).toNat : Int) = c
    k_steps
    · exact .inl ⟨rfl, zr_bad kEq kLt hc (by assumption) (.inl (by assumption)), _, _, _, rfl, by assumption, by (first | (first | (with_reducible assumption) | (refine kst_newsOf (by with_reducible assumption) (fun p hp => ?_); simp only [List.mem_cons, List.mem_append, hp, or_true, true_or])) | (first | (assumption) | (apply news_tail; assumption) | (apply news_tail; apply news_tail; assumption) | (apply news_tail; apply news_tail; apply news_tail; assumption) | (apply news_tail; apply news_tail; apply news_tail; apply news_tail; assumption) | (apply news_tail; apply news_tail; apply news_tail; apply news_tail; apply news_tail; assumption)))⟩
    · exact .inl ⟨rfl, zr_bad kEq kLt hc (by assumption) (.inr (by assumption)), _, _, _, rfl, by assumption, by (first | (first | (with_reducible assumption) | (refine kst_newsOf (by with_reducible assumption) (fun p hp => ?_); simp only [List.mem_cons, List.mem_append, hp, or_true, true_or])) | (first | (assumption) | (apply news_tail; assumption) | (apply news_tail; apply news_tail; assumption) | (apply news_tail; apply news_tail; apply news_tail; assumption) | (apply news_tail; apply news_tail; apply news_tail; apply news_tail; assumption) | (apply news_tail; apply news_tail; apply news_tail; apply news_tail; apply news_tail; assumption)))⟩
    · unfold Hold
      rename News _ _ _ _ => nE'
      refine kst_end ⟨_, _, _, _⟩ (by assumption) nE' (by kst_in) (by (intro p hp; kst_mem)) (by rfl) (by exact True.intro) (by kst_all) (by kst_same) (by exact zr_turn1 kEq kLt hc (by with_reducible assumption) (by with_reducible assumption) (by with_reducible assumption) (by with_reducible assumption))
    · unfold Hold
      rename News _ _ _ _ => nE'
      refine kst_end ⟨_, _, _, _⟩ (by assumption) nE' (by kst_in) (by (intro p hp; kst_mem)) (by rfl) (by exact True.intro) (by kst_all) (by kst_same) (by exact zr_turn2 kEq kLt hc (by with_reducible assumption) (by with_reducible assumption) (by with_reducible assumption) (by with_reducible assumption))
  · refine zr_post (zr_end (by with_reducible assumption)) (by assumption) (by (first | (first | (with_reducible assumption) | (refine kst_newsOf (by with_reducible assumption) (fun p hp => ?_); simp only [List.mem_cons, List.mem_append, hp, or_true, true_or])) | (first | (assumption) | (apply news_tail; assumption) | (apply news_tail; apply news_tail; assumption) | (apply news_tail; apply news_tail; apply news_tail; assumption) | (apply news_tail; apply news_tail; apply news_tail; apply news_tail; assumption) | (apply news_tail; apply news_tail; apply news_tail; apply news_tail; apply news_tail; assumption)))) (by with_unfolding_all rfl) (fun y h1 h2 h3 h4 => ?_)
    simp [h1, h2, h3, h4]
end
section
open _root_.PySem _root_.PySem.W _root_.PySem.Spec _root_.PySem.Calls _root_.PyProof.Rows
theorem told_C4B : True := by
  k_with_none
  w_top off
  k_with "own omega" => (with_reducible first | exact om6 (by assumption) rfl | exact om0 (by assumption) | exact om2 (by assumption) rfl | exact om3 (by assumption) rfl | exact om4 (by assumption) rfl | exact Int.emod_nonneg _ (by decide) | exact Int.emod_lt_of_pos _ (by decide) | exact om8 (by assumption) rfl | exact om9 (by assumption) rfl)
  k_with "storeName" => ((k_here; k_dflt (first | ((with_reducible show wpAny _ _ (storeName _ _ (Value.int _ _)) _ _ _); refine storeG_int (by k_asm) (by k_asm) ?_ (by rfl) (by rfl); intro hq9 tq9 kq9 Fq9 Nq9) | ((with_reducible show wpAny _ _ (storeName _ _ (Value.bytes _ _)) _ _ _); refine storeG_bytes (by k_asm) (by k_asm) ?_ (by rfl) (by rfl); intro hq9 tq9 kq9 Fq9 Nq9) | (refine storeG_any (by k_asm) (by k_asm) ?_ (by rfl) (by rfl); intro hq9 kq9 Fq9 Nq9)); (try k_sweep)))
  k_with "Go" => (refine go_on (by assumption) ?_)
  k_with "own kby_size" => ((first | assumption | omega | (simp only [List.length_append, List.length_cons, List.length_nil] at *; omega)))
  k_with "subscriptTail" => ((k_here; (with_reducible show wpAny _ _ (subscriptTail _ (Expr.Slice _ _ none _) (Value.bytes (List.toArray _) _) (Value.ref _)) _ _ _); (with_reducible rename Fr _ _ _ _ => Fq9); (with_reducible rename News _ _ _ _ => Nq9); (refine BY.slice_L (s := ⟨_, _, _, _, _⟩) Fq9 Nq9 (by constructor) (by constructor) (by kby_size) ?_); intro _ _ _ Fq9 Nq9 hlenq9))
  k_with "binaryOp Add bytes bytes" => ((k_here; (with_reducible show wpAny _ _ (binaryOp Operator.Add (Value.bytes (List.toArray _) _) (Value.bytes (List.toArray _) _)) _ _ _); (refine BY.add_L (by kby_size) ?_); intro _ _))
  k_with "compareOp Eq bytes bytes" => ((k_here; (with_reducible show wpAny _ _ (compareOp CmpOp.Eq (Value.bytes (List.toArray _) _) (Value.bytes (List.toArray _) _)) _ _ _); (refine BY.eq_L ?_)))
  k_with "compareOp NotEq bytes bytes" => ((k_here; (with_reducible show wpAny _ _ (compareOp CmpOp.NotEq (Value.bytes (List.toArray _) _) (Value.bytes (List.toArray _) _)) _ _ _); (refine BY.ne_L ?_)))
  k_with "subscriptTail" => ((k_here; (with_reducible show wpAny _ _ (subscriptTail _ _ (Value.bytes (List.toArray _) _) (Value.int _ _)) _ _ _); (refine BY.item_L (by kby_size) (by first | decide | omega) (by first | omega | (simp only [List.length_append, List.length_cons, List.length_nil] at *; omega)) ?_); intro _ _))
  k_with "compareOp NotIn int bytes" => ((k_here; (with_reducible show wpAny _ _ (compareOp CmpOp.NotIn (Value.int _ _) (Value.bytes (List.toArray _) _)) _ _ _); (refine BY.notIn_B ?_)))
  k_with "call type:int" => ((k_here; (with_reducible show wpAny _ _ (call (Value.type "int") [Value.bytes (List.toArray _) _]) _ _ _); (refine IR.call_int_bytes (by assumption) (by assumption) ?_)))
  k_with "getMethod bytes" => ((k_here; first | (with_reducible refine BW.meth_rindex ?_) | (with_reducible refine BW.meth_rsplit ?_) | (with_reducible refine BW.meth_split ?_) | (with_reducible refine BW.meth_join ?_)))
  k_with "call builtin:bytes.rindex" => ((k_here; first
  | (refine BW.rindex_found (by with_reducible assumption) ?_; intro _ _)
  | (refine BW.rindex_not (by with_reducible assumption) (by first | exact rfl | assumption) ?_; intro _ _ _ _ hxq9)))
  k_with "call builtin:bytes.rsplit" => ((k_here; first
  | (refine BW.rsplit_two (by k_asm) (by k_asm) (by kby_size) (by with_reducible assumption) ?_; intro Dq9 t1q9 t2q9 hq9 kq9 Fq9 Nq9 l1q9; (try k_lt l1q9))
  | (refine BW.rsplit_one (by k_asm) (by k_asm) (by kby_size) (by with_reducible assumption) ?_; intro Dq9 t1q9 hq9 kq9 Fq9 Nq9 l1q9; (try k_lt l1q9))))
  k_with "call builtin:bytes.split" => ((k_here; (refine BW.split_L (by k_asm) (by k_asm) (by kby_size) ?_); intro Dq9 vsq9 hq9 kq9 hvsq9 Fq9 Nq9 l1q9; (try k_lt l1q9)))
  k_with "call builtin:bytes.join" => ((k_here; (refine BW.join_L (News.isList (by k_asm) (by k_mem)) (by with_reducible assumption) (by kby_size) ?_); intro _ _))
  k_with "assign Tuple" => ((k_here; (with_reducible show wpAny _ _ (assign (Expr.Tuple _ _ _) _ (Value.ref _)) _ _ _); (refine BW.unpack_one (News.isList (by k_asm) (by k_mem)) (by exact rfl) (by exact rfl) (by exact rfl) ?_); intro _ _ _ _ hxq9))
  k_with "subscriptTail" => ((k_here; (with_reducible show wpAny _ _ (subscriptTail _ _ (Value.ref _) (Value.int _ _)) _ _ _); (refine BW.item_BL (News.isList (by k_asm) (by k_mem)) (by with_reducible assumption) (by first | assumption | omega) (by first | assumption | omega) (by first | assumption | omega) ?_); intro _))
  k_with "noteFrame ref" => ((k_here; k_dflt ((with_reducible rename Heap.MadeExc _ _ _ _ _ => hxMq9); (refine look_made2 (Heap.MadeExc.of hxMq9) (by k_asm) (by k_asm) (by assumption) ?_); clear hxMq9; intro hq9 tq9 Gq9 Fq9 Rq9 alq9 Uq9; (try dsimp only at Rq9 Uq9 ⊢))))
  k_with "leaving ref" => ((k_here; k_dflt ((with_reducible rename KtsDicts _ _ => kdX); (with_reducible rename Heap.MadeExc _ _ _ _ _ => hxMq9); (refine leave_raise2 (by assumption) (Heap.MadeExc.of hxMq9) (by assumption) (by k_asm) ?_); intro hq9 tq9 Sq9 alq9 Uq9; (have Rq9 := RaisedS.toK Sq9); (try dsimp only at Sq9 Rq9 Uq9 ⊢))))
  k_with "noteFrame ref" => ((k_here; k_dflt ((rename RaisedS _ _ _ _ _ _ _ _ _ => rsX); (with_reducible rename Alone _ _ => alX); (with_reducible show wpAny _ _ (noteFrame _ _) (fun _ s₂ => wpAny _ _ (setFlight _ none) (fun _ s₃ => wpAny _ _ (handleBy _ _ [ExceptHandler.ExceptHandler _ (some _) [Stmt.Raise (some _) (some _) _] _]) _ _ s₃) _ s₂) _ _); (refine look_on2 rsX alX (by assumption) (by assumption) ?_); intro hq9 Rq9 alq9 Uq9; (try dsimp only at Rq9 Uq9 ⊢))))
  k_with "handleBy ref" => ((k_here; k_dflt ((with_reducible rename Alone _ _ => alX); (refine hit2 (by assumption) alX (by assumption) (by assumption) (by assumption) (by assumption) (by assumption) (by assumption) (by kts_test) PySem.F.excBase_Exception PySem.F.excRaise_ValueError (by k_is) (by k_exc) ?_ (fun _ _ hh => hh)); intro hq9 tkq9 e2q9 t2q9 Rq9 RKq9 Uq9; (try dsimp only at Rq9 RKq9 Uq9 ⊢))))
  k_with "getMethod str" => ((k_here; (with_reducible refine BE.meth_encode ?_)))
  k_with "binaryOp Mod str ref" => ((k_here; (with_reducible show wpAny _ _ (binaryOp Operator.Mod (Value.str _ _) (Value.ref _)) _ _ _); k_dflt ((refine BF.fmt_rule (by k_asm) (by k_mem) (by decide +kernel) (by first | exact PG.fd1 (by omega) | exact PG.fd2 (by omega)) PG.fd3 ?_); intro _ _)))
  k_with "call builtin:str.encode" => ((k_here; k_dflt ((refine BE.encode (BF.ascii_fmt _ _ (by decide +kernel)) (BF.size_fmt (by decide +kernel) (by first | exact PG.fd1 (by omega) | exact PG.fd2 (by omega)) PG.fd3) ?_); intro _ _)))
  k_with "call type:str" => ((k_here; k_dflt (refine P.str_of_int (BF.log_lt (by omega)) ?_)))
  k_with "call builtin:str.encode" => ((k_here; k_dflt ((refine BE.encode (BF.ascii_int _) (PH.size_int (by omega)) ?_); intro _ _)))
  k_with "call builtin:bytes.join" => ((k_here; k_dflt ((refine BW.join_L (News.isList (by k_asm) (by k_mem)) (bytesAre_cons (bytesAre_cons (bytesAre_cons bytesAre_nil))) (PH.join3 (by assumption) (Nat.le_trans (PH.octs_int_len (by omega)) (by decide)) (Nat.le_trans (PH.octs_fmt_len (by decide +kernel) (by first | exact PG.fd1 (by omega) | exact PG.fd2 (by omega)) PG.fd3) (by decide))) ?_); intro _ _)))
  trivial
theorem zr_in {g h : Heap} {L : Addr} {M : Str → Option Value} {Y : List UInt8} {t0 t1 t2 : Tok} (F : Fr g L h M) (h1 : M (Str.ofString "weight") = some (.int 60 t2)) (h2 : M (Str.ofString "seconds") = some (.int 0 t1)) (h3 : M (Str.ofString "figures") = some (.bytes Y.toArray t0)) :
    Fr g L h (fun y => if y = Str.ofString "weight" then some (.int 60 t2) else if y = Str.ofString "seconds" then some (.int 0 t1) else if y = Str.ofString "figures" then some (.bytes Y.toArray t0) else M y) := by
  refine fr_ext F fun y => ?_
  by_cases q1 : y = Str.ofString "weight"
  · rw [if_pos q1, q1, h1]
  by_cases q2 : y = Str.ofString "seconds"
  · rw [if_neg q1, if_pos q2, q2, h2]
  by_cases q3 : y = Str.ofString "figures"
  · rw [if_neg q1, if_neg q2, if_pos q3, q3, h3]
  rw [if_neg q1, if_neg q2, if_neg q3]
theorem news_one1 {h₀ h : Heap} {L : Addr} {q a : Addr × Obj} {l : Led} (N : News h₀ L h (q :: a :: l)) : News h₀ L h (q :: l) := fun p hp => N p (by rcases List.mem_cons.mp hp with rfl | hp; exact .head _; exact .tail _ (.tail _ hp))
noncomputable def tailF (mi we : Bool) (Y : List UInt8) : Option (Int × Bool) := if Y = [] then none else (readZ 0 0 (figs Y)).map fun s => (if we then -s else s, mi && (decide (s = 0) || !we))
section
variable {Y : List UInt8} {mi we : Bool} {n z : Int} {t : Tok} {D : Addr} {b : Bool}
theorem tail_empty (h : Y = []) : RetIB (tailF mi we Y) .none [] := by unfold tailF; rw [if_pos h]; exact ⟨rfl, rfl⟩
theorem tail_bad (h : readZ 0 0 (figs Y) = none) : RetIB (tailF mi we Y) .none [] := by
  have : tailF mi we Y = none := by unfold tailF; rw [h]; split <;> rfl
  rw [this]; exact ⟨rfl, rfl⟩
theorem tail_good (h : ¬ Y = []) (hz : readZ 0 0 (figs Y) = some n) (e : (z, b) = (if we then -n else n, mi && (decide (n = 0) || !we))) : RetIB (tailF mi we Y) (.ref D) [(D, tupO [.int z t, .bool b])] := by
  have : tailF mi we Y = some (if we then -n else n, mi && (decide (n = 0) || !we)) := by unfold tailF; rw [if_neg h, hz]; rfl
  rw [this]; exact tup_ib e
theorem tv1 (a : we = true) (b : mi = true) (c : n = 0) : (-n, n == 0) = (if we = true then -n else n, mi && (decide (n = 0) || !we)) := by subst a b c; rfl
theorem tv2 (a : we = true) (b : mi = true) (c : n ≠ 0) : (-n, !we) = (if we = true then -n else n, mi && (decide (n = 0) || !we)) := by subst a b; simp [c]
theorem tv3 (a : we = true) (b : mi = false) : (-n, mi) = (if we = true then -n else n, mi && (decide (n = 0) || !we)) := by subst a b; rfl
theorem tv4 (a : we = false) (b : mi = true) (c : n = 0) : (n, n == 0) = (if we = true then -n else n, mi && (decide (n = 0) || !we)) := by subst a b c; rfl
theorem tv5 (a : we = false) (b : mi = true) (c : n ≠ 0) : (n, !we) = (if we = true then -n else n, mi && (decide (n = 0) || !we)) := by subst a b; simp
theorem tv6 (a : we = false) (b : mi = false) : (n, mi) = (if we = true then -n else n, mi && (decide (n = 0) || !we)) := by subst a b; rfl
theorem zr_eq {x : List UInt8} (m w2 : Bool) (h1 : x.take 1 = if m then [45] else [43]) (h2 : decide ((x.drop 1).take 1 = [45]) = w2) (hY : PA.bare (x.drop 1) = Y) (e1 : mi = m) (e2 : we = (m != w2)) : zrF x = tailF mi we Y := by
  subst e1 e2
  by_cases h : Y = []
  · rw [(zr_gen mi w2 h1 h2 hY).1 h]; unfold tailF; rw [if_pos h]
  · cases hz : readZ 0 0 (figs Y) with
    | none => rw [(zr_gen mi w2 h1 h2 hY).2.1 hz]; unfold tailF; rw [if_neg h, hz]; rfl
    | some s => rw [(zr_gen mi w2 h1 h2 hY).2.2 h s hz]; unfold tailF; rw [if_neg h, hz]; rfl
theorem zr_ret {x : List UInt8} {v : Value} {new : Led} (hR : RetIB (tailF mi we Y) v new) (m w2 : Bool) (h1 : x.take 1 = if m then [45] else [43]) (h2 : decide ((x.drop 1).take 1 = [45]) = w2) (hY : PA.bare (x.drop 1) = Y) (e1 : mi = m) (e2 : we = (m != w2)) : RetIB (zrF x) v new := by
  rw [zr_eq m w2 h1 h2 hY e1 e2]; exact hR
end
theorem told_C4B_8 : True := by
  k_with "exec For Name Call cons nil" => ((k_here; refine hold ?_))
  trivial
set_option maxHeartbeats 1000000 in
theorem zr_tail (w : World) (mean : ExcName → Option Value) (mg mb : Str → Option Value) (dp un : Nat) (gd : Option (List Code)) (cn : Str) (cs : Scope) (a : Addr) (ccd : Value) (cl : List (Str × Addr)) (outer : List Env) (base h₀ g : Heap) (L L' : Addr) (m m' : Str → Option Value) (news : Led) (s : Shared) (t0 : Tok) (mi we : Bool) (Y : List UInt8) (hY : Y.length ≤ 600) :
    ∀ (st : List Stmt) (hst : st = (bodyAt w 145).drop 5) (sc : Scope) (hsc : sc = scopeAt w 145)
    (hdp : dp + 1 < recursionLimit) (hun : un + 8 * 1 < cLine)
    (FG : Fr h₀ L g m) (B : Below (ktrTop dp un gd cn cs L a ccd cl outer) base (envX cn cs L a ccd cl :: outer) g) (X : (hd.heap_1 w.params).In g) (T : Top hd.view_1 (looseW hd.view_1 [Str.ofString "format_timezone"]) mean mg mb g)
    (F : Fr g L' s.heap (fun y => if y = Str.ofString "minus" then some (.bool mi) else if y = Str.ofString "west" then some (.bool we) else if y = Str.ofString "figures" then some (.bytes Y.toArray t0) else m' y)) (N : News g L' s.heap news),
    wpAny (model Challenge.rw_ai0005_01.row.prog w) ((ktrTop dp un gd cn cs L a ccd cl outer).deeper (envOf (Str.ofString "_law_zone_read") sc L' 145 (.ref 144))) (execs st (envOf (Str.ofString "_law_zone_read") sc L' 145 (.ref 144)))
      (RetPost g L' s (RetIB (tailF mi we Y)) news) (fun _ _ => False) s := by
  k_fill
  intro st hst sc hsc hdp hun FG B X T F N
  conv at hst => rhs; whnf
  conv at hsc => rhs; whnf
  subst hst hsc
  k_steps
  · exact ret_post0 (tail_empty (of_decide_eq_true (by assumption))) (by assumption) (by (first | (assumption) | (apply news_tail; assumption) | (apply news_tail; apply news_tail; assumption) | (apply news_tail; apply news_tail; apply news_tail; assumption) | (apply news_tail; apply news_tail; apply news_tail; apply news_tail; assumption) | (apply news_tail; apply news_tail; apply news_tail; apply news_tail; apply news_tail; assumption)))
  · unfold Hold
    rename Fr _ _ _ _ => F'
    rename News _ _ _ _ => N'
    refine wpAny_mono (zr_for w mean mg mb dp un gd cn cs a ccd cl outer base h₀ _ L _ m _ _ _ _ _ _ Y hY _ rfl _ rfl hdp hun (by assumption) (by assumption) (by assumption) (by assumption) (zr_in F' (by with_unfolding_all rfl) (by with_unfolding_all rfl) (by with_unfolding_all rfl)) N') (fun _ _ q => ZrPost.use q ?_ ?_) (fun _ _ h => h.elim)
    · intro m9 h9 tk9 hz F9 N9
      clear F' N'
      dsimp only
      exact ret_post0 (tail_bad hz) (by assumption) (by (first | (assumption) | (apply news_tail; assumption) | (apply news_tail; apply news_tail; assumption) | (apply news_tail; apply news_tail; apply news_tail; assumption) | (apply news_tail; apply news_tail; apply news_tail; apply news_tail; assumption) | (apply news_tail; apply news_tail; apply news_tail; apply news_tail; apply news_tail; assumption)))
    · intro total u9 t9 h9 tk9 hz F9 N9
      clear F' N'
      dsimp only at F9 ⊢
      k_steps
      all_goals refine ret_post1 (tail_good (of_decide_eq_false (by assumption)) hz ?_) (by assumption) (news_one1 (by assumption))
      all_goals first
        | exact tv1 (by assumption) (by assumption) (by assumption)
        | exact tv2 (by assumption) (by assumption) (by assumption)
        | exact tv3 (by assumption) (by assumption)
        | exact tv4 (by assumption) (by assumption) (by assumption)
        | exact tv5 (by assumption) (by assumption) (by assumption)
        | exact tv6 (by assumption) (by assumption)
theorem told_C4B_9 : True := by
  k_with "execs cons" => ((k_here; (with_reducible show wpAny _ _ (execs (Stmt.If (PySem.Expr.Compare (PySem.Expr.Name (Str.ofString "figures") _) _ _ _) _ _ _ :: _) _) _ _ _); refine hold ?_))
  trivial
set_option maxHeartbeats 4000000 in
theorem zread_con (w : World) (mean : ExcName → Option Value) (mg mb : Str → Option Value) (x : List UInt8) (tx : Tok) (hx : x.length ≤ 600) : Con w mean mg mb 1 145 [.bytes x.toArray tx] (RetIB (zrF x)) := by
  unfold Con
  k_fill
  intro dp un gd cn cs a ccd cl outer A₀ base h₀ L m news s Q E B F X N T hk hd hu hret
  have q1 : (BY.cut (some 1) none x).length ≤ 600 := Nat.le_trans (BY.cut_length ..) hx
  have q2 : (BY.cut (some 1) none (BY.cut (some 1) none x)).length ≤ 600 := Nat.le_trans (BY.cut_length ..) q1
  refine wpAny_call ?_
  w_strict (k_dflt cell_enter; k_steps)
  all_goals first
    | (rw [zr_no (by assumption) (by assumption)] at hret
       exact end0 hret (by assumption) (by (first | (assumption) | (apply news_tail; assumption) | (apply news_tail; apply news_tail; assumption) | (apply news_tail; apply news_tail; apply news_tail; assumption) | (apply news_tail; apply news_tail; apply news_tail; apply news_tail; assumption) | (apply news_tail; apply news_tail; apply news_tail; apply news_tail; apply news_tail; assumption))) ⟨rfl, rfl⟩)
    | skip
  all_goals unfold Hold
  all_goals (rename Fr _ _ _ _ => F'; rename News _ _ _ _ => N')
  all_goals first
    | refine wpAny_mono (zr_tail w mean mg mb dp un gd cn cs a ccd cl outer base h₀ _ L _ m _ _ _ _ _ _ _ q2 _ rfl _ rfl hd hu (by assumption) (by assumption) (by assumption) (by assumption) (in3 F' (by with_unfolding_all rfl) (by with_unfolding_all rfl) (by with_unfolding_all rfl)) N') (fun _ _ q => RetPost.use q ?_) (fun _ _ h => h.elim)
    | refine wpAny_mono (zr_tail w mean mg mb dp un gd cn cs a ccd cl outer base h₀ _ L _ m _ _ _ _ _ _ _ q1 _ rfl _ rfl hd hu (by assumption) (by assumption) (by assumption) (by assumption) (in3 F' (by with_unfolding_all rfl) (by with_unfolding_all rfl) (by with_unfolding_all rfl)) N') (fun _ _ q => RetPost.use q ?_) (fun _ _ h => h.elim)
  all_goals intro v new m9 h9 tk9 hR F9 N9
  all_goals clear F' N'
  all_goals dsimp only
  all_goals k_steps
  all_goals first
    | exact hret v new _ _ (zr_ret (x := x) hR true true (by rw [← cut_to1]; exact (by assumption)) (decide_eq_true (by rw [← cut_from1, ← cut_to1]; assumption)) (by rw [← cut_from1]; exact bare_in (.inl (by assumption))) (by first | rfl | exact decide_eq_true (by assumption)) (by first | rfl | (rw [decide_eq_true (by assumption)]; rfl))) (by assumption) (by first | assumption | exact news_skip (by assumption))
    | exact hret v new _ _ (zr_ret (x := x) hR true false (by rw [← cut_to1]; exact (by assumption)) (decide_eq_false (by rw [← cut_from1, ← cut_to1]; assumption)) (by rw [← cut_from1]; first | exact bare_in (.inr (by assumption)) | exact bare_no (by assumption) (by assumption)) (by first | rfl | exact decide_eq_true (by assumption)) (by first | rfl | (rw [decide_eq_true (by assumption)]; rfl))) (by assumption) (by first | assumption | exact news_skip (by assumption))
    | exact hret v new _ _ (zr_ret (x := x) hR false true (by rw [← cut_to1]; exact (sign_of (by assumption))) (decide_eq_true (by rw [← cut_from1, ← cut_to1]; assumption)) (by rw [← cut_from1]; exact bare_in (.inl (by assumption))) (by first | rfl | exact decide_eq_false (by assumption)) (by first | rfl | (rw [decide_eq_false (by assumption)]; rfl))) (by assumption) (by first | assumption | exact news_skip (by assumption))
    | exact hret v new _ _ (zr_ret (x := x) hR false false (by rw [← cut_to1]; exact (sign_of (by assumption))) (decide_eq_false (by rw [← cut_from1, ← cut_to1]; assumption)) (by rw [← cut_from1]; first | exact bare_in (.inr (by assumption)) | exact bare_no (by assumption) (by assumption)) (by first | rfl | exact decide_eq_false (by assumption)) (by first | rfl | (rw [decide_eq_false (by assumption)]; rfl))) (by assumption) (by first | assumption | exact news_skip (by assumption))
end
section
open _root_.PySem _root_.PySem.W _root_.PySem.Spec _root_.PySem.Calls _root_.PyProof.Rows
theorem told_C7 : True := by
  k_with_none
  w_top off
  k_with "own omega" => (with_reducible first | exact om6 (by assumption) rfl | exact om0 (by assumption) | exact om2 (by assumption) rfl | exact om3 (by assumption) rfl | exact om4 (by assumption) rfl | exact Int.emod_nonneg _ (by decide) | exact Int.emod_lt_of_pos _ (by decide) | exact om8 (by assumption) rfl | exact om9 (by assumption) rfl)
  k_with "storeName" => ((k_here; k_dflt (first | ((with_reducible show wpAny _ _ (storeName _ _ (Value.int _ _)) _ _ _); refine storeG_int (by k_asm) (by k_asm) ?_ (by rfl) (by rfl); intro hq9 tq9 kq9 Fq9 Nq9) | ((with_reducible show wpAny _ _ (storeName _ _ (Value.bytes _ _)) _ _ _); refine storeG_bytes (by k_asm) (by k_asm) ?_ (by rfl) (by rfl); intro hq9 tq9 kq9 Fq9 Nq9) | (refine storeG_any (by k_asm) (by k_asm) ?_ (by rfl) (by rfl); intro hq9 kq9 Fq9 Nq9)); (try k_sweep)))
  k_with "Go" => (refine go_on (by assumption) ?_)
  k_with "own kby_size" => ((first | assumption | omega | (simp only [List.length_append, List.length_cons, List.length_nil] at *; omega)))
  k_with "subscriptTail" => ((k_here; (with_reducible show wpAny _ _ (subscriptTail _ (Expr.Slice _ _ none _) (Value.bytes (List.toArray _) _) (Value.ref _)) _ _ _); (with_reducible rename Fr _ _ _ _ => Fq9); (with_reducible rename News _ _ _ _ => Nq9); (refine BY.slice_L (s := ⟨_, _, _, _, _⟩) Fq9 Nq9 (by constructor) (by constructor) (by kby_size) ?_); intro _ _ _ Fq9 Nq9 hlenq9))
  k_with "binaryOp Add bytes bytes" => ((k_here; (with_reducible show wpAny _ _ (binaryOp Operator.Add (Value.bytes (List.toArray _) _) (Value.bytes (List.toArray _) _)) _ _ _); (refine BY.add_L (by kby_size) ?_); intro _ _))
  k_with "compareOp Eq bytes bytes" => ((k_here; (with_reducible show wpAny _ _ (compareOp CmpOp.Eq (Value.bytes (List.toArray _) _) (Value.bytes (List.toArray _) _)) _ _ _); (refine BY.eq_L ?_)))
  k_with "compareOp NotEq bytes bytes" => ((k_here; (with_reducible show wpAny _ _ (compareOp CmpOp.NotEq (Value.bytes (List.toArray _) _) (Value.bytes (List.toArray _) _)) _ _ _); (refine BY.ne_L ?_)))
  k_with "subscriptTail" => ((k_here; (with_reducible show wpAny _ _ (subscriptTail _ _ (Value.bytes (List.toArray _) _) (Value.int _ _)) _ _ _); (refine BY.item_L (by kby_size) (by first | decide | omega) (by first | omega | (simp only [List.length_append, List.length_cons, List.length_nil] at *; omega)) ?_); intro _ _))
  k_with "compareOp NotIn int bytes" => ((k_here; (with_reducible show wpAny _ _ (compareOp CmpOp.NotIn (Value.int _ _) (Value.bytes (List.toArray _) _)) _ _ _); (refine BY.notIn_B ?_)))
  k_with "call type:int" => ((k_here; (with_reducible show wpAny _ _ (call (Value.type "int") [Value.bytes (List.toArray _) _]) _ _ _); (refine IR.call_int_bytes (by assumption) (by assumption) ?_)))
  k_with "getMethod bytes" => ((k_here; first | (with_reducible refine BW.meth_rindex ?_) | (with_reducible refine BW.meth_rsplit ?_) | (with_reducible refine BW.meth_split ?_) | (with_reducible refine BW.meth_join ?_)))
  k_with "call builtin:bytes.rindex" => ((k_here; first
  | (refine BW.rindex_found (by with_reducible assumption) ?_; intro _ _)
  | (refine BW.rindex_not (by with_reducible assumption) (by first | exact rfl | assumption) ?_; intro _ _ _ _ hxq9)))
  k_with "call builtin:bytes.rsplit" => ((k_here; first
  | (refine BW.rsplit_two (by k_asm) (by k_asm) (by kby_size) (by with_reducible assumption) ?_; intro Dq9 t1q9 t2q9 hq9 kq9 Fq9 Nq9 l1q9; (try k_lt l1q9))
  | (refine BW.rsplit_one (by k_asm) (by k_asm) (by kby_size) (by with_reducible assumption) ?_; intro Dq9 t1q9 hq9 kq9 Fq9 Nq9 l1q9; (try k_lt l1q9))))
  k_with "call builtin:bytes.split" => ((k_here; (refine BW.split_L (by k_asm) (by k_asm) (by kby_size) ?_); intro Dq9 vsq9 hq9 kq9 hvsq9 Fq9 Nq9 l1q9; (try k_lt l1q9)))
  k_with "call builtin:bytes.join" => ((k_here; (refine BW.join_L (News.isList (by k_asm) (by k_mem)) (by with_reducible assumption) (by kby_size) ?_); intro _ _))
  k_with "assign Tuple" => ((k_here; (with_reducible show wpAny _ _ (assign (Expr.Tuple _ _ _) _ (Value.ref _)) _ _ _); (refine BW.unpack_one (News.isList (by k_asm) (by k_mem)) (by exact rfl) (by exact rfl) (by exact rfl) ?_); intro _ _ _ _ hxq9))
  k_with "subscriptTail" => ((k_here; (with_reducible show wpAny _ _ (subscriptTail _ _ (Value.ref _) (Value.int _ _)) _ _ _); (refine BW.item_BL (News.isList (by k_asm) (by k_mem)) (by with_reducible assumption) (by first | assumption | omega) (by first | assumption | omega) (by first | assumption | omega) ?_); intro _))
  k_with "noteFrame ref" => ((k_here; k_dflt ((with_reducible rename Heap.MadeExc _ _ _ _ _ => hxMq9); (refine look_made2 (Heap.MadeExc.of hxMq9) (by k_asm) (by k_asm) (by assumption) ?_); clear hxMq9; intro hq9 tq9 Gq9 Fq9 Rq9 alq9 Uq9; (try dsimp only at Rq9 Uq9 ⊢))))
  k_with "leaving ref" => ((k_here; k_dflt ((with_reducible rename KtsDicts _ _ => kdX); (with_reducible rename Heap.MadeExc _ _ _ _ _ => hxMq9); (refine leave_raise2 (by assumption) (Heap.MadeExc.of hxMq9) (by assumption) (by k_asm) ?_); intro hq9 tq9 Sq9 alq9 Uq9; (have Rq9 := RaisedS.toK Sq9); (try dsimp only at Sq9 Rq9 Uq9 ⊢))))
  k_with "noteFrame ref" => ((k_here; k_dflt ((rename RaisedS _ _ _ _ _ _ _ _ _ => rsX); (with_reducible rename Alone _ _ => alX); (with_reducible show wpAny _ _ (noteFrame _ _) (fun _ s₂ => wpAny _ _ (setFlight _ none) (fun _ s₃ => wpAny _ _ (handleBy _ _ [ExceptHandler.ExceptHandler _ (some _) [Stmt.Raise (some _) (some _) _] _]) _ _ s₃) _ s₂) _ _); (refine look_on2 rsX alX (by assumption) (by assumption) ?_); intro hq9 Rq9 alq9 Uq9; (try dsimp only at Rq9 Uq9 ⊢))))
  k_with "handleBy ref" => ((k_here; k_dflt ((with_reducible rename Alone _ _ => alX); (refine hit2 (by assumption) alX (by assumption) (by assumption) (by assumption) (by assumption) (by assumption) (by assumption) (by kts_test) PySem.F.excBase_Exception PySem.F.excRaise_ValueError (by k_is) (by k_exc) ?_ (fun _ _ hh => hh)); intro hq9 tkq9 e2q9 t2q9 Rq9 RKq9 Uq9; (try dsimp only at Rq9 RKq9 Uq9 ⊢))))
  k_with "getMethod str" => ((k_here; (with_reducible refine BE.meth_encode ?_)))
  k_with "binaryOp Mod str ref" => ((k_here; (with_reducible show wpAny _ _ (binaryOp Operator.Mod (Value.str _ _) (Value.ref _)) _ _ _); k_dflt ((refine BF.fmt_rule (by k_asm) (by k_mem) (by decide +kernel) (by first | exact PG.fd1 (by omega) | exact PG.fd2 (by omega)) PG.fd3 ?_); intro _ _)))
  k_with "call builtin:str.encode" => ((k_here; k_dflt ((refine BE.encode (BF.ascii_fmt _ _ (by decide +kernel)) (BF.size_fmt (by decide +kernel) (by first | exact PG.fd1 (by omega) | exact PG.fd2 (by omega)) PG.fd3) ?_); intro _ _)))
  k_with "call type:str" => ((k_here; k_dflt (refine P.str_of_int (BF.log_lt (by omega)) ?_)))
  k_with "call builtin:str.encode" => ((k_here; k_dflt ((refine BE.encode (BF.ascii_int _) (PH.size_int (by omega)) ?_); intro _ _)))
  k_with "call builtin:bytes.join" => ((k_here; k_dflt ((refine BW.join_L (News.isList (by k_asm) (by k_mem)) (bytesAre_cons (bytesAre_cons (bytesAre_cons bytesAre_nil))) (PH.join3 (by assumption) (Nat.le_trans (PH.octs_int_len (by omega)) (by decide)) (Nat.le_trans (PH.octs_fmt_len (by decide +kernel) (by first | exact PG.fd1 (by omega) | exact PG.fd2 (by omega)) PG.fd3) (by decide))) ?_); intro _ _)))
  trivial
theorem lz_len {s : Int} {b : Bool} {x : List UInt8} (hs : s.natAbs < 10 ^ 60) (h : lzF s b = some x) : x.length ≤ 64 := by
  unfold lzF at h
  split at h
  · cases h
  injection h with h
  subst h
  have h1 : (decN (s.natAbs / 3600)).length ≤ 60 := PD.dec_len 60 _ (by decide) (Nat.lt_of_le_of_lt (Nat.div_le_self _ _) (by assumption))
  have h2 : (decN (s.natAbs / 60 % 60)).length ≤ 2 := PD.dec_len 2 _ (by decide) (Nat.lt_trans (Nat.mod_lt _ (show 0 < 60 by decide)) (by decide))
  have p1 : (pad2 (s.natAbs / 3600)).length ≤ 61 := by
    unfold pad2; split
    · exact Nat.succ_le_succ h1
    · exact Nat.le_succ_of_le h1
  have p2 : (pad2 (s.natAbs / 60 % 60)).length ≤ 2 := by
    unfold pad2
    split
    · rename_i q; rw [PD.dec_lt q]; exact Nat.le_refl _
    · exact h2
  split
  · rw [List.length_cons, List.length_cons, List.length_append]; exact Nat.succ_le_succ (Nat.succ_le_succ (Nat.add_le_add h1 p2))
  · rw [List.length_cons, List.length_append]; exact Nat.succ_le_succ (Nat.add_le_add p1 p2)
theorem lz_some {n : Int} {b : Bool} (h60 : n.fmod 60 = 0) : ∃ z, lzF n b = some z := by
  unfold lzF; rw [if_neg (by rw [Int.fmod_eq_emod_of_nonneg _ (by decide)] at h60; exact fun q => q h60)]; exact ⟨_, rfl⟩
set_option maxHeartbeats 1000000 in
theorem line_made_good (w : World) (mean : ExcName → Option Value) (mg mb : Str → Option Value) (x : List UInt8) (tx : Tok) (hx : x.length ≤ 600) (k : Int) (tk : Tok) (hk' : k.natAbs < 10 ^ 60) (n : Int) (tn : Tok) (hb : n.natAbs < 10 ^ 60) (b : Bool) (hp : b = true → PF.plainF n = true) (h60 : n.fmod 60 = 0) (z : List UInt8) (hz : lzF n b = some z) :
    Con w mean mg mb 3 187 [.bytes x.toArray tx, .int k tk, .int n tn, .bool b] (RetB (some (x ++ 32 :: (decI k ++ 32 :: z)))) := by
  unfold Con
  k_fill
  intro dp un gd cn cs a ccd cl outer A₀ base h₀ L m news s Q E B F X N T hk hd hu hret
  have hzl := lz_len hb hz
  rw [← PD.octs_int, ← PH.join3_eq] at hret
  refine wpAny_call ?_
  w_strict (k_dflt cell_enter; k_steps)
  refine wpAny_call ?_
  w_strict (k_dflt ((refine' code_def ?k1 ?k2 ?k3 ?k4 ?k5 ?kA ?kF ?kK ?k6 ?k7 ?k8 ?k9 ?kB ?_ ?c2 ?c3 ?c4 ?c5; (case kA => exact rfl); (case kF => exact rfl); (case kK => first | assumption | exact rfl); (case k1 => k_asm); (case k2 => k_asm); (case k3 => k_asm); (case k4 => k_asm); (case k5 => k_asm); (case k6 => k_is); (case k7 => k_is); (case k8 => ktr_room); (case k9 => first | exact BindsTo.of_eq rfl | exact binds_K (by k_in) rfl (by k_is) rfl rfl rfl); (case c5 => decide); (case kB => exact locs rfl); (case c2 => exact rfl); (case c3 => exact rfl); (case c4 => exact rfl); k_whole; intro g' L' h' FG' F' N' B' X' T'; (try dsimp only); (try k_lift B'); (try k_fold))); k_steps)
  refine con_use (format_good w mean mg mb n _ hb h60 b hp) (by k_asm) (by k_asm) (by k_asm) (by k_asm) (by k_asm) (by first | exact rfl | assumption) (by ktr_room) (by ktr_units) ?_
  intro v new h' tk' hR F' N'
  rw [hz] at hR
  obtain ⟨t, rfl, rfl⟩ := hR
  dsimp only [List.nil_append] at N'
  k_steps
  refine BW.join_L (News.isList (by k_asm) (by k_mem)) (bytesAre_cons (bytesAre_cons (bytesAre_cons bytesAre_nil))) (PH.join3 hx (Nat.le_trans (PH.octs_int_len (om6 hk' rfl)) (by decide)) (Nat.le_trans hzl (by decide))) ?_
  intro _ _
  k_steps
  exact end0 hret (by assumption) (by (first | assumption | (apply news_tail; assumption) | (apply news_tail; apply news_tail; assumption) | (apply news_tail; apply news_tail; apply news_tail; assumption))) ⟨_, rfl, rfl⟩
theorem told_C7_10 : True := by
  k_with "execs cons" => ((k_here; (with_reducible show wpAny _ _ (execs (Stmt.If (PySem.Expr.BoolOp _ _ _) _ _ _ :: _) _) _ _ _); k_dflt (exact absurd (by assumption) h60)))
  trivial
set_option maxHeartbeats 1000000 in
theorem line_made (w : World) (mean : ExcName → Option Value) (mg mb : Str → Option Value) (x : List UInt8) (tx : Tok) (hx : x.length ≤ 600) (k : Int) (tk : Tok) (hk' : k.natAbs < 10 ^ 60) (n : Int) (tn : Tok) (hb : n.natAbs < 10 ^ 60) (b : Bool) (hp : b = true → PF.plainF n = true) :
    ConL w mean mg mb 187 [.bytes x.toArray tx, .int k tk, .int n tn, .bool b] (RetB ((lzF n b).map fun z => x ++ 32 :: (decI k ++ 32 :: z))) := by
  by_cases h60 : n.fmod 60 = 0
  · obtain ⟨z, hz⟩ := lz_some (b := b) h60
    rw [hz, Option.map_some]
    unfold ConL
    k_fill
    intro cn cs a ccd h₀ L m news s Q E B F X N T hk hret
    refine wpK_of (con_use (line_made_good w mean mg mb x tx hx k tk hk' n tn hb b hp h60 z hz) (by k_asm) (by k_asm) (by k_asm) (by k_asm) (by k_asm) (by first | exact rfl | assumption) (by ktr_room) (by ktr_units) hret)
  rw [PG.e_bad h60, Option.map_none]
  unfold ConL
  k_fill
  intro cn cs a ccd h₀ L m news s Q E B F X N T hk hret
  refine wpK_call ?_
  ((refine' codeK_defS0 ?k1_28 ?k2_28 ?k3_28 ?k4_28 ?k5_28 ?kA_28 ?k6_28 ?k7_28 ?k8_28 ?k9_28 ?kB_28 ?_ ?cK_28 ?c2_28 ?c3_28 ?c4_28 ?c5_28; (case kA_28 => exact rfl); (case k2_28 => k_asm); (case k1_28 => k_asm); (case k3_28 => k_asm); (case k4_28 => k_asm); (case k5_28 => k_asm); (case k6_28 => k_is); (case k7_28 => k_is); (case k8_28 => k_room); (case k9_28 => exact BindsTo.of_eq rfl); (case kB_28 => exact locs rfl); (case cK_28 => first | assumption | exact rfl); (case c2_28 => exact rfl); (case c3_28 => exact rfl); (case c4_28 => exact rfl); (case c5_28 => decide); intro gz' Lz' hz' FGz' Fz' Nz' Bz' Xz' Tz' Dz'; (try dsimp only); (try k_lift Bz'); (try k_fold)))
  refine wpK_of ?_
  k_steps
  all_goals first
    | (exfalso; exact absurd (by assumption) h60)
    | exact end0 hret (by assumption) (by (first | assumption | (apply news_tail; assumption) | (apply news_tail; apply news_tail; assumption) | (apply news_tail; apply news_tail; apply news_tail; assumption))) ⟨rfl, rfl⟩
end
section
open _root_.PySem _root_.PySem.W _root_.PySem.Spec _root_.PySem.Calls _root_.PyProof.Rows
theorem told_C8 : True := by
  k_with_none
  w_top off
  k_with "own omega" => (with_reducible first | exact om6 (by assumption) rfl | exact om0 (by assumption) | exact om2 (by assumption) rfl | exact om3 (by assumption) rfl | exact om4 (by assumption) rfl | exact Int.emod_nonneg _ (by decide) | exact Int.emod_lt_of_pos _ (by decide) | exact om8 (by assumption) rfl | exact om9 (by assumption) rfl)
  k_with "storeName" => ((k_here; k_dflt (first | ((with_reducible show wpAny _ _ (storeName _ _ (Value.int _ _)) _ _ _); refine storeG_int (by k_asm) (by k_asm) ?_ (by rfl) (by rfl); intro hq9 tq9 kq9 Fq9 Nq9) | ((with_reducible show wpAny _ _ (storeName _ _ (Value.bytes _ _)) _ _ _); refine storeG_bytes (by k_asm) (by k_asm) ?_ (by rfl) (by rfl); intro hq9 tq9 kq9 Fq9 Nq9) | (refine storeG_any (by k_asm) (by k_asm) ?_ (by rfl) (by rfl); intro hq9 kq9 Fq9 Nq9)); (try k_sweep)))
  k_with "Go" => (refine go_on (by assumption) ?_)
  k_with "own kby_size" => ((first | assumption | omega | (simp only [List.length_append, List.length_cons, List.length_nil] at *; omega)))
  k_with "subscriptTail" => ((k_here; (with_reducible show wpAny _ _ (subscriptTail _ (Expr.Slice _ _ none _) (Value.bytes (List.toArray _) _) (Value.ref _)) _ _ _); (with_reducible rename Fr _ _ _ _ => Fq9); (with_reducible rename News _ _ _ _ => Nq9); (refine BY.slice_L (s := ⟨_, _, _, _, _⟩) Fq9 Nq9 (by constructor) (by constructor) (by kby_size) ?_); intro _ _ _ Fq9 Nq9 hlenq9))
  k_with "binaryOp Add bytes bytes" => ((k_here; (with_reducible show wpAny _ _ (binaryOp Operator.Add (Value.bytes (List.toArray _) _) (Value.bytes (List.toArray _) _)) _ _ _); (refine BY.add_L (by kby_size) ?_); intro _ _))
  k_with "compareOp Eq bytes bytes" => ((k_here; (with_reducible show wpAny _ _ (compareOp CmpOp.Eq (Value.bytes (List.toArray _) _) (Value.bytes (List.toArray _) _)) _ _ _); (refine BY.eq_L ?_)))
  k_with "compareOp NotEq bytes bytes" => ((k_here; (with_reducible show wpAny _ _ (compareOp CmpOp.NotEq (Value.bytes (List.toArray _) _) (Value.bytes (List.toArray _) _)) _ _ _); (refine BY.ne_L ?_)))
  k_with "subscriptTail" => ((k_here; (with_reducible show wpAny _ _ (subscriptTail _ _ (Value.bytes (List.toArray _) _) (Value.int _ _)) _ _ _); (refine BY.item_L (by kby_size) (by first | decide | omega) (by first | omega | (simp only [List.length_append, List.length_cons, List.length_nil] at *; omega)) ?_); intro _ _))
  k_with "compareOp NotIn int bytes" => ((k_here; (with_reducible show wpAny _ _ (compareOp CmpOp.NotIn (Value.int _ _) (Value.bytes (List.toArray _) _)) _ _ _); (refine BY.notIn_B ?_)))
  k_with "call type:int" => ((k_here; (with_reducible show wpAny _ _ (call (Value.type "int") [Value.bytes (List.toArray _) _]) _ _ _); (refine IR.call_int_bytes (by assumption) (by assumption) ?_)))
  k_with "getMethod bytes" => ((k_here; first | (with_reducible refine BW.meth_rindex ?_) | (with_reducible refine BW.meth_rsplit ?_) | (with_reducible refine BW.meth_split ?_) | (with_reducible refine BW.meth_join ?_)))
  k_with "call builtin:bytes.rindex" => ((k_here; first
  | (refine BW.rindex_found (by with_reducible assumption) ?_; intro _ _)
  | (refine BW.rindex_not (by with_reducible assumption) (by first | exact rfl | assumption) ?_; intro _ _ _ _ hxq9)))
  k_with "call builtin:bytes.rsplit" => ((k_here; first
  | (refine BW.rsplit_two (by k_asm) (by k_asm) (by kby_size) (by with_reducible assumption) ?_; intro Dq9 t1q9 t2q9 hq9 kq9 Fq9 Nq9 l1q9; (try k_lt l1q9))
  | (refine BW.rsplit_one (by k_asm) (by k_asm) (by kby_size) (by with_reducible assumption) ?_; intro Dq9 t1q9 hq9 kq9 Fq9 Nq9 l1q9; (try k_lt l1q9))))
  k_with "call builtin:bytes.split" => ((k_here; (refine BW.split_L (by k_asm) (by k_asm) (by kby_size) ?_); intro Dq9 vsq9 hq9 kq9 hvsq9 Fq9 Nq9 l1q9; (try k_lt l1q9)))
  k_with "call builtin:bytes.join" => ((k_here; (refine BW.join_L (News.isList (by k_asm) (by k_mem)) (by with_reducible assumption) (by kby_size) ?_); intro _ _))
  k_with "assign Tuple" => ((k_here; (with_reducible show wpAny _ _ (assign (Expr.Tuple _ _ _) _ (Value.ref _)) _ _ _); (refine BW.unpack_one (News.isList (by k_asm) (by k_mem)) (by exact rfl) (by exact rfl) (by exact rfl) ?_); intro _ _ _ _ hxq9))
  k_with "subscriptTail" => ((k_here; (with_reducible show wpAny _ _ (subscriptTail _ _ (Value.ref _) (Value.int _ _)) _ _ _); (refine BW.item_BL (News.isList (by k_asm) (by k_mem)) (by with_reducible assumption) (by first | assumption | omega) (by first | assumption | omega) (by first | assumption | omega) ?_); intro _))
  k_with "noteFrame ref" => ((k_here; k_dflt ((with_reducible rename Heap.MadeExc _ _ _ _ _ => hxMq9); (refine look_made2 (Heap.MadeExc.of hxMq9) (by k_asm) (by k_asm) (by assumption) ?_); clear hxMq9; intro hq9 tq9 Gq9 Fq9 Rq9 alq9 Uq9; (try dsimp only at Rq9 Uq9 ⊢))))
  k_with "leaving ref" => ((k_here; k_dflt ((with_reducible rename KtsDicts _ _ => kdX); (with_reducible rename Heap.MadeExc _ _ _ _ _ => hxMq9); (refine leave_raise2 (by assumption) (Heap.MadeExc.of hxMq9) (by assumption) (by k_asm) ?_); intro hq9 tq9 Sq9 alq9 Uq9; (have Rq9 := RaisedS.toK Sq9); (try dsimp only at Sq9 Rq9 Uq9 ⊢))))
  k_with "noteFrame ref" => ((k_here; k_dflt ((rename RaisedS _ _ _ _ _ _ _ _ _ => rsX); (with_reducible rename Alone _ _ => alX); (with_reducible show wpAny _ _ (noteFrame _ _) (fun _ s₂ => wpAny _ _ (setFlight _ none) (fun _ s₃ => wpAny _ _ (handleBy _ _ [ExceptHandler.ExceptHandler _ (some _) [Stmt.Raise (some _) (some _) _] _]) _ _ s₃) _ s₂) _ _); (refine look_on2 rsX alX (by assumption) (by assumption) ?_); intro hq9 Rq9 alq9 Uq9; (try dsimp only at Rq9 Uq9 ⊢))))
  k_with "handleBy ref" => ((k_here; k_dflt ((with_reducible rename Alone _ _ => alX); (refine hit2 (by assumption) alX (by assumption) (by assumption) (by assumption) (by assumption) (by assumption) (by assumption) (by kts_test) PySem.F.excBase_Exception PySem.F.excRaise_ValueError (by k_is) (by k_exc) ?_ (fun _ _ hh => hh)); intro hq9 tkq9 e2q9 t2q9 Rq9 RKq9 Uq9; (try dsimp only at Rq9 RKq9 Uq9 ⊢))))
  k_with "getMethod str" => ((k_here; (with_reducible refine BE.meth_encode ?_)))
  k_with "binaryOp Mod str ref" => ((k_here; (with_reducible show wpAny _ _ (binaryOp Operator.Mod (Value.str _ _) (Value.ref _)) _ _ _); k_dflt ((refine BF.fmt_rule (by k_asm) (by k_mem) (by decide +kernel) (by first | exact PG.fd1 (by omega) | exact PG.fd2 (by omega)) PG.fd3 ?_); intro _ _)))
  k_with "call builtin:str.encode" => ((k_here; k_dflt ((refine BE.encode (BF.ascii_fmt _ _ (by decide +kernel)) (BF.size_fmt (by decide +kernel) (by first | exact PG.fd1 (by omega) | exact PG.fd2 (by omega)) PG.fd3) ?_); intro _ _)))
  k_with "call type:str" => ((k_here; k_dflt (refine P.str_of_int (BF.log_lt (by omega)) ?_)))
  k_with "call builtin:str.encode" => ((k_here; k_dflt ((refine BE.encode (BF.ascii_int _) (PH.size_int (by omega)) ?_); intro _ _)))
  k_with "call builtin:bytes.join" => ((k_here; k_dflt ((refine BW.join_L (News.isList (by k_asm) (by k_mem)) (bytesAre_cons (bytesAre_cons (bytesAre_cons bytesAre_nil))) (PH.join3 (by assumption) (Nat.le_trans (PH.octs_int_len (by omega)) (by decide)) (Nat.le_trans (PH.octs_fmt_len (by decide +kernel) (by first | exact PG.fd1 (by omega) | exact PG.fd2 (by omega)) PG.fd3) (by decide))) ?_); intro _ _)))
  trivial
theorem told_C8_11 : True := by
  k_with "subscriptTail" => ((k_here; (with_reducible show wpAny _ _ (subscriptTail _ (PySem.Expr.Slice _ _ none _) (Value.ref _) (Value.ref _)) _ _ _); k_dflt (first
  | (refine BS.slice_from (by k_asm) (by k_asm) (News.isList (by k_asm) (by k_mem)) (by with_reducible assumption) (by constructor) (by constructor) (by omega) (by (try simp only [List.length_drop, List.length_take]); omega) ?_)
  | (refine BS.slice_upto (by k_asm) (by k_asm) (News.isList (by k_asm) (by k_mem)) (by with_reducible assumption) (by constructor) (by constructor) (by omega) (by (try simp only [List.length_drop, List.length_take]); omega) ?_)
  | (refine BS.slice_less (by k_asm) (by k_asm) (News.isList (by k_asm) (by k_mem)) (by with_reducible assumption) (by constructor) (by constructor) (by (try simp only [List.length_drop, List.length_take]); omega) ?_)); intro Dq9 wsq9 hq9 hvsq9 Fq9 Nq9 l1q9; (try k_lt l1q9)))
  k_with "subscriptTail" => ((k_here; (with_reducible show wpAny _ _ (subscriptTail _ _ (Value.ref _) (Value.int (-1) _)) _ _ _); (refine BS.item_last (News.isList (by k_asm) (by k_mem)) (by with_reducible assumption) (by first | assumption | omega) (by first | assumption | omega) ?_); intro _))
  k_with "call builtin:len" => ((k_here; (with_reducible show wpAny _ _ (call (Value.builtin "len") [Value.ref _]) _ _ _); (refine BS.len_B (News.isList (by k_asm) (by k_mem)) (by with_reducible assumption) (by (try simp only [List.length_drop, List.length_take]); omega) ?_); intro _ _))
  k_with "exec While Compare cons nil" => ((k_here; refine hold ?_))
  trivial
local macro_rules | `(tactic| walk_at "pyIter ref") => `(tactic| (k_here; refine hold ?_))
noncomputable def WhEnd (h₀ : Heap) (L : Addr) (s : Shared) (x : Str) (m₀ : Str → Option Value) (news : Led) (P : List Int → Prop) (μ : List Int → Nat) (W : List Int) (f : Flow) (s₃ : Shared) : Prop :=
  f = .next ∧ ∃ h' tk l' vs' W' news', s₃ = { s with heap := h', toks := tk } ∧ Fr h₀ L h' (fun y => if y = x then some (.ref l') else m₀ y) ∧ News h₀ L h' ((l', PySem.W.listOf vs'.toArray 0) :: news') ∧ (∀ p ∈ news, p ∈ news') ∧ IntsAre vs' W' ∧ P W' ∧ μ W' < μ W
theorem while_list {prog : Program} {w : World} {A : Around} {E : Value → Shared → Prop} {Q : Flow → Shared → Prop} {s : Shared} {env : Env} {h₀ : Heap} {L : Addr} {test : Expr} {body : List Stmt} {pos : Pos} {m₀ : Str → Option Value} {news news₀ : Led} {l : Addr} {vs : List Value} {W₀ : List Int} {x : Str} (P : List Int → Prop) (μ : List Int → Nat)
    (F : Fr h₀ L s.heap m₀) (N : News h₀ L s.heap news₀) (hx : m₀ x = some (.ref l)) (hl : (l, PySem.W.listOf vs.toArray 0) ∈ news₀) (hn : ∀ p ∈ news, p ∈ news₀) (hi : IntsAre vs W₀) (hp : P W₀)
    (turn : ∀ W l₁ vs₁ h₁ tk₁, IntsAre vs₁ W → P W → Fr h₀ L h₁ (fun y => if y = x then some (.ref l₁) else m₀ y) → News h₀ L h₁ ((l₁, PySem.W.listOf vs₁.toArray 0) :: news) →
      wpAny (model prog w) A (isTrue test env (eval test env)) (fun b s₂ =>
        if b = true then wpAny (model prog w) A (execs body env) (WhEnd h₀ L s x m₀ news P μ W) E s₂ else Q .next s₂) E { s with heap := h₁, toks := tk₁ })
    (hE : PassesOwn (model prog w) A env E := by passes_own) :
    wpAny (model prog w) A (exec (.While test body [] pos) env) Q E s := by
  refine While_inv2 (n₀ := μ W₀) (news := (l, PySem.W.listOf vs.toArray 0) :: news) (fun n m nx => ∃ W l vs, m = (fun y => if y = x then some (.ref l) else m₀ y) ∧ nx = (l, PySem.W.listOf vs.toArray 0) :: news ∧ IntsAre vs W ∧ P W ∧ n = μ W) F (fun p hp => N p (by rcases List.mem_cons.mp hp with rfl | hp; exact hl; exact hn _ hp)) ⟨W₀, l, vs, ?_, rfl, hi, hp, rfl⟩ ?_ hE
  · funext y
    by_cases e : y = x
    · simp [e, hx]
    · simp [e]
  rintro n m₁ nx h tk F₁ N₁ ⟨W, l₁, vs₁, rfl, rfl, hi₁, hp₁, rfl⟩
  refine wpAny_mono (turn W l₁ vs₁ h tk hi₁ hp₁ F₁ N₁) (fun b s₂ p => ?_) fun _ _ x => x
  cases b with
  | false => simpa using p
  | true =>
    simp only [if_true] at p ⊢
    refine wpAny_mono p (fun f s₃ q => ?_) fun _ _ x => x
    obtain ⟨rfl, h', tk', l', vs', W', news', rfl, F', N', hs, hi', hp', hm⟩ := q
    exact ⟨h', tk', _, (l', PySem.W.listOf vs'.toArray 0) :: news, μ W', rfl, F', fun p hp => N' p (by rcases List.mem_cons.mp hp with rfl | hp; exact .head _; exact .tail _ (hs _ hp)), hm, W', l', vs', rfl, rfl, hi', hp', rfl⟩
theorem wh_end {h₀ h' : Heap} {L : Addr} {s : Shared} {x : Str} {m₀ : Str → Option Value} {news : Led} {P : List Int → Prop} {μ : List Int → Nat} {W : List Int} {D l₁ : Addr} {ws : List Value} {W' : List Int} {p1 p2 : Addr × Obj} {tk : Nat}
    (F : Fr h₀ L h' (fun y => if y = x then some (.ref D) else if y = x then some (.ref l₁) else m₀ y)) (N : News h₀ L h' ((D, PySem.W.listOf ws.toArray 0) :: p1 :: p2 :: news)) (hi : IntsAre ws W') (hp : P W') (hm : μ W' < μ W) : WhEnd h₀ L s x m₀ news P μ W .next { s with heap := h', toks := tk } := by
  refine ⟨rfl, h', tk, D, ws, W', p1 :: p2 :: news, rfl, ?_, N, fun p h => .tail _ (.tail _ h), hi, hp, hm⟩
  have e : (fun y => if y = x then some (Value.ref D) else m₀ y) = (fun y => if y = x then some (Value.ref D) else if y = x then some (Value.ref l₁) else m₀ y) := by
    funext y
    by_cases h : y = x <;> simp [h]
  rw [e]; exact F
theorem topW_pos (j : Nat) : 36000 * ((j : Int) + 1) ≤ topW j := by
  unfold topW
  induction j with
  | zero => decide
  | succ j ih => rw [Int.pow_succ]; (first | lia | omega)
theorem topW_gt (j : Nat) : 0 < topW j := Int.mul_pos (by decide) (Int.pow_pos (by decide))
theorem topW_succ (j : Nat) : topW j * 10 = topW (j + 1) := by unfold topW; rw [Int.pow_succ]; (first | lia | omega)
theorem topW_lt (j : Nat) : topW j < topW (j + 1) := by have := topW_gt j; rw [← topW_succ]; omega
theorem w_turn {R : Int} {W : List Int} (h : Wok R W) (hR : R < 10 ^ 60) (hc : W.getD (Int.toNat 0) 0 * 10 ≤ R) : Wok R ([W.getD (Int.toNat 0) 0 * 10] ++ W) ∧ (R - ([W.getD (Int.toNat 0) 0 * 10] ++ W).getD 0 0).toNat < (R - W.getD 0 0).toNat := by
  obtain ⟨_, _, j, rfl, _⟩ := h
  rw [show Int.toNat 0 = 0 from rfl, wl_head] at hc ⊢
  rw [topW_succ] at hc ⊢
  have hj : j + 1 ≤ 60 := by
    rcases Nat.lt_or_ge 60 (j + 1) with q | q
    · exfalso
      have : (10 : Int) ^ 61 ≤ 10 ^ (j + 1) := by
        have := Nat.pow_le_pow_right (n := 10) (by decide) (show 61 ≤ j + 1 by (first | lia | omega))
        exact_mod_cast this
      unfold topW at hc
      (first | lia | omega)
    · exact q
  have hp := topW_pos j
  have hs := topW_succ j
  refine ⟨⟨by simp [wl_len], by simp [wl_len]; (first | lia | omega), j + 1, rfl, .inr hc⟩, ?_⟩
  show (R - topW (j + 1)).toNat < (R - topW j).toNat
  have hlt : topW j < topW (j + 1) := topW_lt j
  exact (Int.toNat_lt_toNat (Int.sub_pos_of_lt (Int.lt_of_lt_of_le hlt hc))).mpr (Int.sub_lt_sub_left hlt R)
theorem wl_pos : ∀ {j : Nat} {k : Int}, k ∈ wl j → 0 < k
  | 0, k, h => by simp only [wl, List.mem_cons, List.not_mem_nil, or_false] at h; rcases h with rfl | rfl | rfl | rfl <;> decide
  | j + 1, k, h => by
    rcases List.mem_cons.mp h with rfl | h
    · exact topW_gt (j + 1)
    · exact wl_pos h
theorem wl_le : ∀ {j : Nat} {k : Int}, k ∈ wl j → k ≤ topW j
  | 0, k, h => by simp only [wl, List.mem_cons, List.not_mem_nil, or_false] at h; rcases h with rfl | rfl | rfl | rfl <;> decide
  | j + 1, k, h => by
    rcases List.mem_cons.mp h with rfl | h
    · exact Int.le_refl _
    · exact Int.le_trans (wl_le h) (Int.le_of_lt (topW_lt j))
theorem wl_log {j : Nat} {k R : Int} (h : k ∈ wl j) (hq : j = 0 ∨ topW j ≤ R) (hR : R < 10 ^ 60) : k.natAbs.log2 < 9000 := by
  have h1 := wl_pos h
  have h2 := wl_le h
  have h3 : k < 10 ^ 60 := by
    rcases hq with rfl | hq
    · exact Int.lt_of_le_of_lt h2 (by decide)
    · exact Int.lt_of_le_of_lt (Int.le_trans h2 hq) hR
  have h4 : k.natAbs < 2 ^ 200 := om6 (nab (K := 10 ^ 60) (Int.le_of_lt h1) h3) rfl
  exact om6 ((Nat.log2_lt (Int.natAbs_ne_zero.mpr (Int.ne_of_gt h1))).mpr h4) rfl
theorem lz_start {R : Int} : (([] : List Int), R) = ([] : List Int).foldl lzStep ([], R) ∧ ([] : List Int).length = ([] : List Int).length := ⟨rfl, rfl⟩
theorem lz_turn {F pre : List Int} {r k R : Int} (h : (F, r) = pre.foldl lzStep ([], R)) (hl : F.length = pre.length) : (F ++ [48 + r.fdiv k], r.fmod k) = (pre ++ [k]).foldl lzStep ([], R) ∧ (F ++ [48 + r.fdiv k]).length = (pre ++ [k]).length := by
  refine ⟨?_, by simp [hl]⟩
  rw [List.foldl_append, ← h]
  rfl
theorem drop_in {F : List Int} {k : Nat} (h : ∀ f ∈ F, 0 ≤ f ∧ f < 256) : ∀ f ∈ F.drop k, 0 ≤ f ∧ f < 256 := fun f hf => h f (List.mem_of_mem_drop hf)
theorem size_ok {vs : List Value} {ns : List Int} (h : IntsAre vs ns) (hl : ns.length ≤ 100) : vs.length ≤ sizeLine := by
  rw [h.length]; exact Nat.le_trans hl (by decide +kernel)
section
variable {n r : Int} {b : Bool} {F : List Int}
theorem lz_e1 (z : r = 0 ↔ n % 60 = 0) (h : r ≠ 0) : lzF n b = none := by
  unfold lzF; rw [if_pos fun q => h (z.mpr q)]
theorem lz_e2 (z : r = 0 ↔ n % 60 = 0) (h : r = 0) (hb : b = true) (hn : 0 < n) (h48 : F.getD (Int.toNat 0) 0 = 48) (z5 : ((if F.getD 0 0 = 48 then F.drop 1 else F).map fun n => n.toNat.toUInt8) = decN (n.natAbs / 3600) ++ pad2 (n.natAbs / 60 % 60)) :
    lzF n b = some ([45, 45] ++ (F.drop 1).map fun n => n.toNat.toUInt8) := by
  rw [if_pos (show F.getD 0 0 = 48 from h48)] at z5
  unfold lzF; rw [if_neg fun q => q (z.mp h), if_pos ⟨hb, hn⟩, z5]; rfl
theorem lz_e3 (z : r = 0 ↔ n % 60 = 0) (h : r = 0) (hb : b = true) (hn : 0 < n) (h48 : F.getD (Int.toNat 0) 0 ≠ 48) (z5 : ((if F.getD 0 0 = 48 then F.drop 1 else F).map fun n => n.toNat.toUInt8) = decN (n.natAbs / 3600) ++ pad2 (n.natAbs / 60 % 60)) :
    lzF n b = some ([45, 45] ++ F.map fun n => n.toNat.toUInt8) := by
  rw [if_neg (show ¬ F.getD 0 0 = 48 from h48)] at z5
  unfold lzF; rw [if_neg fun q => q (z.mp h), if_pos ⟨hb, hn⟩, z5]; rfl
theorem lz_e4 (z : r = 0 ↔ n % 60 = 0) (h : r = 0) (hb : b = true) (hn : ¬ 0 < n) (z3 : (F.map fun n => n.toNat.toUInt8) = pad2 (n.natAbs / 3600) ++ pad2 (n.natAbs / 60 % 60)) :
    lzF n b = some ([45] ++ F.map fun n => n.toNat.toUInt8) := by
  unfold lzF; rw [if_neg fun q => q (z.mp h), if_neg fun q => hn q.2, if_pos (.inl hb), z3]; rfl
theorem lz_e5 (z : r = 0 ↔ n % 60 = 0) (h : r = 0) (hb : b = false) (hn : n < 0) (z3 : (F.map fun n => n.toNat.toUInt8) = pad2 (n.natAbs / 3600) ++ pad2 (n.natAbs / 60 % 60)) :
    lzF n b = some ([45] ++ F.map fun n => n.toNat.toUInt8) := by
  unfold lzF; rw [if_neg fun q => q (z.mp h), if_neg fun q => by rw [hb] at q; exact Bool.noConfusion q.1, if_pos (.inr hn), z3]; rfl
theorem lz_e6 (z : r = 0 ↔ n % 60 = 0) (h : r = 0) (hb : b = false) (hn : ¬ n < 0) (z3 : (F.map fun n => n.toNat.toUInt8) = pad2 (n.natAbs / 3600) ++ pad2 (n.natAbs / 60 % 60)) :
    lzF n b = some ([43] ++ F.map fun n => n.toNat.toUInt8) := by
  unfold lzF; rw [if_neg fun q => q (z.mp h), if_neg fun q => by rw [hb] at q; exact Bool.noConfusion q.1, if_neg fun q => q.elim (fun e => by rw [hb] at e; cases e) hn, z3]; rfl
end
theorem told_C8_12 : True := by
  k_with "own kst_p" => (first | with_reducible exact lz_start | with_reducible exact lz_turn (by assumption) (by assumption))
  trivial
theorem divmod_K {prog : Program} {w : World} {A : Around} {E : Value → Shared → Prop} {Q : Value → Shared → Prop} {s : Shared} {h₀ : Heap} {L : Addr} {m : Str → Option Value} {news : Led} {a b : Int} {t u : Tok} (F : Fr h₀ L s.heap m) (N : News h₀ L s.heap news) (hb : b ≠ 0) (hl : b.natAbs.log2 < 9000)
    (h : ∀ D h' t1 t2 k, Fr h₀ L h' m → News h₀ L h' ((D, tupO [.int (a.fdiv b) t1, .int (a.fmod b) t2]) :: news) → (∀ q ∈ news, q.1 < D) → Q (.ref D) { s with heap := h', toks := k }) :
    wpAny (model prog w) A (call (.builtin "divmod") [.int a t, .int b u]) Q E s :=
  divmod_N F N hb (fun h' F' N' => h _ h' _ _ _ F' N' fun q hq => Heap.lt_size (N q hq).1) (.inl (PyProof.noPylong_of_log2 hl))
theorem told_C8_13 : True := by
  k_with "call builtin:divmod" => ((k_here; (with_reducible show wpAny _ _ (call (Value.builtin _) [Value.int _ _, Value.int _ _]) _ _ _); (refine divmod_K (by k_asm) (by k_asm) (by first | assumption | omega) (by assumption) ?_); intro Dq9 hq9 _ _ _ Fq9 Nq9 l1q9; (try k_lt l1q9)))
  k_with "own kby_size" => (first | assumption | omega | (simp only [List.length_append, List.length_cons, List.length_nil] at *; omega) | (simp only [List.length_map, List.length_append, List.length_cons, List.length_nil, List.length_drop]; omega))
  k_with "call type:bytes" => ((k_here; (with_reducible show wpAny _ _ (call (Value.type "bytes") [Value.ref _]) _ _ _); k_dflt ((refine bytes_K (by k_asm) (by k_asm) (News.isList (by k_asm) (by k_mem)) (by with_reducible assumption) (by first | assumption | exact drop_in (by assumption)) (size_ok (by with_reducible assumption) (by omega)) rfl ?_); intro hq9 tq9 kq9 Fq9 Nq9 _)))
  trivial
set_option maxHeartbeats 400000 in
theorem lzone_con (w : World) (mean : ExcName → Option Value) (mg mb : Str → Option Value) (n : Int) (tn : Tok) (hn : n.natAbs < 10 ^ 60) (b : Bool) :
    Con w mean mg mb 1 138 [.int n tn, .bool b] (RetB (lzF n b)) := by
  unfold Con
  k_fill
  intro dp un gd cn cs a ccd cl outer A₀ base h₀ L m news s Q E B F X N T hk hd hu hret
  refine wpAny_call ?_
  w_strict (k_dflt cell_enter; k_steps)
  unfold Hold
  have hR : (if n < 0 then -n else n) < 10 ^ 60 := by rw [PN.abs_if]; exact Int.ofNat_lt.mpr hn
  have hR0 : 0 ≤ (if n < 0 then -n else n) := by rw [PN.abs_if]; exact Int.natCast_nonneg _
  refine while_list (x := Str.ofString "weights") (W₀ := [36000, 3600, 600, 60]) (news := news) (Wok (if n < 0 then -n else n)) (fun W => ((if n < 0 then -n else n) - W.getD 0 0).toNat) (by assumption) (by assumption) rfl (.tail _ (.head _)) (fun _ h => .tail _ (.tail _ h)) (by repeat (first | exact .nil | apply IntsAre.cons)) ⟨by decide, by decide, 0, rfl, .inl rfl⟩ ?_
  · intro W l₁ vs₁ h₁ tk₁ hi hP F' N'
    obtain ⟨hP1, hP2, hP3⟩ := id hP
    k_fold
    k_steps
    · have q := w_turn hP hR (by assumption)
      exact wh_end (by assumption) (by assumption) (by assumption) q.1 q.2
    · unfold Hold
      k_state (fun pre rest figures => (figures, rest) = pre.foldl lzStep ([], if n < 0 then -n else n) ∧ figures.length = pre.length) "rest" "figures"
      · have hk0 : 0 < kN := by obtain ⟨j, e, _⟩ := hP3; exact wl_pos (e ▸ kMem)
        have hk1 : kN.natAbs.log2 < 9000 := by obtain ⟨j, e, q⟩ := hP3; exact wl_log (e ▸ kMem) q hR
        k_steps
      · rename_i kw _ _
        obtain ⟨z1, z2, z3, z4, z5⟩ := lz_all hP (by assumption) kw
        k_steps
        · rw [lz_e1 z1 (by assumption)] at hret
          exact end0 hret (by assumption) (by (first | (assumption) | (apply news_tail; assumption) | (apply news_tail; apply news_tail; assumption) | (apply news_tail; apply news_tail; apply news_tail; assumption) | (apply news_tail; apply news_tail; apply news_tail; apply news_tail; assumption) | (apply news_tail; apply news_tail; apply news_tail; apply news_tail; apply news_tail; assumption))) ⟨rfl, rfl⟩
        all_goals first
          | (rw [lz_e2 z1 (by assumption) (by assumption) (by assumption) (by assumption) z5] at hret; exact end0 hret (by assumption) (by (first | (assumption) | (apply news_tail; assumption) | (apply news_tail; apply news_tail; assumption) | (apply news_tail; apply news_tail; apply news_tail; assumption) | (apply news_tail; apply news_tail; apply news_tail; apply news_tail; assumption) | (apply news_tail; apply news_tail; apply news_tail; apply news_tail; apply news_tail; assumption))) ⟨_, rfl, rfl⟩)
          | (rw [lz_e3 z1 (by assumption) (by assumption) (by assumption) (by assumption) z5] at hret; exact end0 hret (by assumption) (by (first | (assumption) | (apply news_tail; assumption) | (apply news_tail; apply news_tail; assumption) | (apply news_tail; apply news_tail; apply news_tail; assumption) | (apply news_tail; apply news_tail; apply news_tail; apply news_tail; assumption) | (apply news_tail; apply news_tail; apply news_tail; apply news_tail; apply news_tail; assumption))) ⟨_, rfl, rfl⟩)
          | (rw [lz_e4 z1 (by assumption) (by assumption) (by assumption) z3] at hret; exact end0 hret (by assumption) (by (first | (assumption) | (apply news_tail; assumption) | (apply news_tail; apply news_tail; assumption) | (apply news_tail; apply news_tail; apply news_tail; assumption) | (apply news_tail; apply news_tail; apply news_tail; apply news_tail; assumption) | (apply news_tail; apply news_tail; apply news_tail; apply news_tail; apply news_tail; assumption))) ⟨_, rfl, rfl⟩)
          | (rw [lz_e5 z1 (by assumption) (by assumption) (by assumption) z3] at hret; exact end0 hret (by assumption) (by (first | (assumption) | (apply news_tail; assumption) | (apply news_tail; apply news_tail; assumption) | (apply news_tail; apply news_tail; apply news_tail; assumption) | (apply news_tail; apply news_tail; apply news_tail; apply news_tail; assumption) | (apply news_tail; apply news_tail; apply news_tail; apply news_tail; apply news_tail; assumption))) ⟨_, rfl, rfl⟩)
          | (rw [lz_e6 z1 (by assumption) (by assumption) (by assumption) z3] at hret; exact end0 hret (by assumption) (by (first | (assumption) | (apply news_tail; assumption) | (apply news_tail; apply news_tail; assumption) | (apply news_tail; apply news_tail; apply news_tail; assumption) | (apply news_tail; apply news_tail; apply news_tail; apply news_tail; assumption) | (apply news_tail; apply news_tail; apply news_tail; apply news_tail; apply news_tail; assumption))) ⟨_, rfl, rfl⟩)
end
section
open _root_.PySem _root_.PySem.W _root_.PySem.Spec _root_.PySem.Calls _root_.PyProof.Rows
theorem told_C9 : True := by
  k_with_none
  w_top off
  k_with "own omega" => (with_reducible first | exact om6 (by assumption) rfl | exact om0 (by assumption) | exact om2 (by assumption) rfl | exact om3 (by assumption) rfl | exact om4 (by assumption) rfl | exact Int.emod_nonneg _ (by decide) | exact Int.emod_lt_of_pos _ (by decide) | exact om8 (by assumption) rfl | exact om9 (by assumption) rfl)
  k_with "storeName" => ((k_here; k_dflt (first | ((with_reducible show wpAny _ _ (storeName _ _ (Value.int _ _)) _ _ _); refine storeG_int (by k_asm) (by k_asm) ?_ (by rfl) (by rfl); intro hq9 tq9 kq9 Fq9 Nq9) | ((with_reducible show wpAny _ _ (storeName _ _ (Value.bytes _ _)) _ _ _); refine storeG_bytes (by k_asm) (by k_asm) ?_ (by rfl) (by rfl); intro hq9 tq9 kq9 Fq9 Nq9) | (refine storeG_any (by k_asm) (by k_asm) ?_ (by rfl) (by rfl); intro hq9 kq9 Fq9 Nq9)); (try k_sweep)))
  k_with "Go" => (refine go_on (by assumption) ?_)
  k_with "own kby_size" => ((first | assumption | omega | (simp only [List.length_append, List.length_cons, List.length_nil] at *; omega)))
  k_with "subscriptTail" => ((k_here; (with_reducible show wpAny _ _ (subscriptTail _ (Expr.Slice _ _ none _) (Value.bytes (List.toArray _) _) (Value.ref _)) _ _ _); (with_reducible rename Fr _ _ _ _ => Fq9); (with_reducible rename News _ _ _ _ => Nq9); (refine BY.slice_L (s := ⟨_, _, _, _, _⟩) Fq9 Nq9 (by constructor) (by constructor) (by kby_size) ?_); intro _ _ _ Fq9 Nq9 hlenq9))
  k_with "binaryOp Add bytes bytes" => ((k_here; (with_reducible show wpAny _ _ (binaryOp Operator.Add (Value.bytes (List.toArray _) _) (Value.bytes (List.toArray _) _)) _ _ _); (refine BY.add_L (by kby_size) ?_); intro _ _))
  k_with "compareOp Eq bytes bytes" => ((k_here; (with_reducible show wpAny _ _ (compareOp CmpOp.Eq (Value.bytes (List.toArray _) _) (Value.bytes (List.toArray _) _)) _ _ _); (refine BY.eq_L ?_)))
  k_with "compareOp NotEq bytes bytes" => ((k_here; (with_reducible show wpAny _ _ (compareOp CmpOp.NotEq (Value.bytes (List.toArray _) _) (Value.bytes (List.toArray _) _)) _ _ _); (refine BY.ne_L ?_)))
  k_with "subscriptTail" => ((k_here; (with_reducible show wpAny _ _ (subscriptTail _ _ (Value.bytes (List.toArray _) _) (Value.int _ _)) _ _ _); (refine BY.item_L (by kby_size) (by first | decide | omega) (by first | omega | (simp only [List.length_append, List.length_cons, List.length_nil] at *; omega)) ?_); intro _ _))
  k_with "compareOp NotIn int bytes" => ((k_here; (with_reducible show wpAny _ _ (compareOp CmpOp.NotIn (Value.int _ _) (Value.bytes (List.toArray _) _)) _ _ _); (refine BY.notIn_B ?_)))
  k_with "call type:int" => ((k_here; (with_reducible show wpAny _ _ (call (Value.type "int") [Value.bytes (List.toArray _) _]) _ _ _); (refine IR.call_int_bytes (by assumption) (by assumption) ?_)))
  k_with "getMethod bytes" => ((k_here; first | (with_reducible refine BW.meth_rindex ?_) | (with_reducible refine BW.meth_rsplit ?_) | (with_reducible refine BW.meth_split ?_) | (with_reducible refine BW.meth_join ?_)))
  k_with "call builtin:bytes.rindex" => ((k_here; first
  | (refine BW.rindex_found (by with_reducible assumption) ?_; intro _ _)
  | (refine BW.rindex_not (by with_reducible assumption) (by first | exact rfl | assumption) ?_; intro _ _ _ _ hxq9)))
  k_with "call builtin:bytes.rsplit" => ((k_here; first
  | (refine BW.rsplit_two (by k_asm) (by k_asm) (by kby_size) (by with_reducible assumption) ?_; intro Dq9 t1q9 t2q9 hq9 kq9 Fq9 Nq9 l1q9; (try k_lt l1q9))
  | (refine BW.rsplit_one (by k_asm) (by k_asm) (by kby_size) (by with_reducible assumption) ?_; intro Dq9 t1q9 hq9 kq9 Fq9 Nq9 l1q9; (try k_lt l1q9))))
  k_with "call builtin:bytes.split" => ((k_here; (refine BW.split_L (by k_asm) (by k_asm) (by kby_size) ?_); intro Dq9 vsq9 hq9 kq9 hvsq9 Fq9 Nq9 l1q9; (try k_lt l1q9)))
  k_with "call builtin:bytes.join" => ((k_here; (refine BW.join_L (News.isList (by k_asm) (by k_mem)) (by with_reducible assumption) (by kby_size) ?_); intro _ _))
  k_with "assign Tuple" => ((k_here; (with_reducible show wpAny _ _ (assign (Expr.Tuple _ _ _) _ (Value.ref _)) _ _ _); (refine BW.unpack_one (News.isList (by k_asm) (by k_mem)) (by exact rfl) (by exact rfl) (by exact rfl) ?_); intro _ _ _ _ hxq9))
  k_with "subscriptTail" => ((k_here; (with_reducible show wpAny _ _ (subscriptTail _ _ (Value.ref _) (Value.int _ _)) _ _ _); (refine BW.item_BL (News.isList (by k_asm) (by k_mem)) (by with_reducible assumption) (by first | assumption | omega) (by first | assumption | omega) (by first | assumption | omega) ?_); intro _))
  k_with "noteFrame ref" => ((k_here; k_dflt ((with_reducible rename Heap.MadeExc _ _ _ _ _ => hxMq9); (refine look_made2 (Heap.MadeExc.of hxMq9) (by k_asm) (by k_asm) (by assumption) ?_); clear hxMq9; intro hq9 tq9 Gq9 Fq9 Rq9 alq9 Uq9; (try dsimp only at Rq9 Uq9 ⊢))))
  k_with "leaving ref" => ((k_here; k_dflt ((with_reducible rename KtsDicts _ _ => kdX); (with_reducible rename Heap.MadeExc _ _ _ _ _ => hxMq9); (refine leave_raise2 (by assumption) (Heap.MadeExc.of hxMq9) (by assumption) (by k_asm) ?_); intro hq9 tq9 Sq9 alq9 Uq9; (have Rq9 := RaisedS.toK Sq9); (try dsimp only at Sq9 Rq9 Uq9 ⊢))))
  k_with "noteFrame ref" => ((k_here; k_dflt ((rename RaisedS _ _ _ _ _ _ _ _ _ => rsX); (with_reducible rename Alone _ _ => alX); (with_reducible show wpAny _ _ (noteFrame _ _) (fun _ s₂ => wpAny _ _ (setFlight _ none) (fun _ s₃ => wpAny _ _ (handleBy _ _ [ExceptHandler.ExceptHandler _ (some _) [Stmt.Raise (some _) (some _) _] _]) _ _ s₃) _ s₂) _ _); (refine look_on2 rsX alX (by assumption) (by assumption) ?_); intro hq9 Rq9 alq9 Uq9; (try dsimp only at Rq9 Uq9 ⊢))))
  k_with "handleBy ref" => ((k_here; k_dflt ((with_reducible rename Alone _ _ => alX); (refine hit2 (by assumption) alX (by assumption) (by assumption) (by assumption) (by assumption) (by assumption) (by assumption) (by kts_test) PySem.F.excBase_Exception PySem.F.excRaise_ValueError (by k_is) (by k_exc) ?_ (fun _ _ hh => hh)); intro hq9 tkq9 e2q9 t2q9 Rq9 RKq9 Uq9; (try dsimp only at Rq9 RKq9 Uq9 ⊢))))
  k_with "getMethod str" => ((k_here; (with_reducible refine BE.meth_encode ?_)))
  k_with "binaryOp Mod str ref" => ((k_here; (with_reducible show wpAny _ _ (binaryOp Operator.Mod (Value.str _ _) (Value.ref _)) _ _ _); k_dflt ((refine BF.fmt_rule (by k_asm) (by k_mem) (by decide +kernel) (by first | exact PG.fd1 (by omega) | exact PG.fd2 (by omega)) PG.fd3 ?_); intro _ _)))
  k_with "call builtin:str.encode" => ((k_here; k_dflt ((refine BE.encode (BF.ascii_fmt _ _ (by decide +kernel)) (BF.size_fmt (by decide +kernel) (by first | exact PG.fd1 (by omega) | exact PG.fd2 (by omega)) PG.fd3) ?_); intro _ _)))
  k_with "call type:str" => ((k_here; k_dflt (refine P.str_of_int (BF.log_lt (by omega)) ?_)))
  k_with "call builtin:str.encode" => ((k_here; k_dflt ((refine BE.encode (BF.ascii_int _) (PH.size_int (by omega)) ?_); intro _ _)))
  k_with "call builtin:bytes.join" => ((k_here; k_dflt ((refine BW.join_L (News.isList (by k_asm) (by k_mem)) (bytesAre_cons (bytesAre_cons (bytesAre_cons bytesAre_nil))) (PH.join3 (by assumption) (Nat.le_trans (PH.octs_int_len (by omega)) (by decide)) (Nat.le_trans (PH.octs_fmt_len (by decide +kernel) (by first | exact PG.fd1 (by omega) | exact PG.fd2 (by omega)) PG.fd3) (by decide))) ?_); intro _ _)))
  trivial
theorem told_C9_14 : True := by
  k_with "subscriptTail" => ((k_here; (with_reducible show wpAny _ _ (subscriptTail _ (PySem.Expr.Slice _ _ none _) (Value.ref _) (Value.ref _)) _ _ _); k_dflt (first
  | (refine BS.slice_from (by k_asm) (by k_asm) (News.isList (by k_asm) (by k_mem)) (by with_reducible assumption) (by constructor) (by constructor) (by omega) (by (try simp only [List.length_drop, List.length_take]); omega) ?_)
  | (refine BS.slice_upto (by k_asm) (by k_asm) (News.isList (by k_asm) (by k_mem)) (by with_reducible assumption) (by constructor) (by constructor) (by omega) (by (try simp only [List.length_drop, List.length_take]); omega) ?_)
  | (refine BS.slice_less (by k_asm) (by k_asm) (News.isList (by k_asm) (by k_mem)) (by with_reducible assumption) (by constructor) (by constructor) (by (try simp only [List.length_drop, List.length_take]); omega) ?_)); intro Dq9 wsq9 hq9 hvsq9 Fq9 Nq9 l1q9; (try k_lt l1q9)))
  k_with "subscriptTail" => ((k_here; (with_reducible show wpAny _ _ (subscriptTail _ _ (Value.ref _) (Value.int (-1) _)) _ _ _); (refine BS.item_last (News.isList (by k_asm) (by k_mem)) (by with_reducible assumption) (by first | assumption | omega) (by first | assumption | omega) ?_); intro _))
  k_with "call builtin:len" => ((k_here; (with_reducible show wpAny _ _ (call (Value.builtin "len") [Value.ref _]) _ _ _); (refine BS.len_B (News.isList (by k_asm) (by k_mem)) (by with_reducible assumption) (by (try simp only [List.length_drop, List.length_take]); omega) ?_); intro _ _))
  trivial
local macro_rules | `(tactic| walk_at "pyIter ref") => `(tactic| (k_here; refine hold ?_))
theorem told_C9_15 : True := by
  k_with "call ref" => ((k_here; (with_reducible show wpAny _ _ (call (Value.ref 152) _) _ _ _); refine hold ?_))
  k_with "call ref" => ((k_here; (with_reducible show wpAny _ _ (call (Value.ref 145) _) _ _ _); refine hold ?_))
  trivial
theorem news_one2b {h₀ h : Heap} {L : Addr} {q r a : Addr × Obj} {l : Led} (N : News h₀ L h (q :: r :: a :: l)) : News h₀ L h (q :: r :: l) := fun p hp => N p (by simp only [List.mem_cons] at hp ⊢; rcases hp with h | h | h <;> simp [h])
theorem getD_len {d : UInt8} {x : List UInt8} (i : Nat) : ((PL.splitC d x).getD i []).length ≤ x.length := by
  rw [List.getD_eq_getElem?_getD]
  cases h : (PL.splitC d x)[i]? with
  | none => simp
  | some y => exact BZ.splitC_len d x y (List.mem_of_getElem? h)
theorem lr_nat {k : Int} {n i : Nat} (h : k = (n : Int) - 1 - (i : Int)) (h1 : 1 ≤ k) : n = k.toNat + 1 + i := by omega
theorem lr_found {x : List UInt8} {k : Int} {i : Nat} (hki : k = ((PL.splitC 62 x).length : Int) - 1 - (i : Int)) (hk0 : 1 ≤ k) (hk1 : k < ((PL.splitC 62 x).length : Int)) (h32 : BY.cut none (some 1) ((PL.splitC 62 x).getD k.toNat []) = [32])
    (hP : ∀ j, (PL.splitC 62 x).length - i ≤ j → j < (PL.splitC 62 x).length → ((PL.splitC 62 x).getD j []).take 1 ≠ [32])
    (R : List UInt8) (hR : R = BY.cut (some 1) none (PL.joinC [62] ((PL.splitC 62 x).drop k.toNat))) :
    lrF x = match wholeF (PL.joinC [32] ((PL.splitC 32 R).take ((PL.splitC 32 R).length - 1))) with
      | none => none
      | some n => (zrF ((PL.splitC 32 R).getD ((PL.splitC 32 R).length - 1) [])).map fun z => (PL.joinC [62] ((PL.splitC 62 x).take k.toNat) ++ [62], some (n, z)) := by
  have hm : PL.lastMark x = some (PL.joinC [62] ((PL.splitC 62 x).take k.toNat), R) := by
    rw [PL.mark_split, hR, cut_from1]
    obtain ⟨q, hq⟩ : ∃ q, k.toNat = q + 1 := ⟨k.toNat - 1, (Nat.sub_add_cancel (show 1 ≤ k.toNat from Int.toNat_le_toNat hk0)).symm⟩
    have hn := lr_nat hki hk0
    rw [hq] at h32 hn ⊢
    exact PL.mark_found q _ (by rw [hn]; exact Nat.lt_of_lt_of_le (Nat.lt_succ_self _) (Nat.le_add_right _ i)) (by rw [← cut_to1]; exact h32) fun j h1 h2 => hP j (by rw [hn, Nat.add_sub_cancel]; exact h1) h2
  unfold lrF
  rw [hm]
  dsimp only
  rw [PL.sp_split]
  by_cases h1 : (PL.splitC 32 R).length = 1
  · rw [if_pos h1, h1] <;> rfl
  · rw [if_neg h1] <;> rfl
theorem lr_none {x : List UInt8} {N : Nat} (hN : N = (((PL.splitC 62 x).length : Int) - 1 - 0).toNat) (hP : ∀ j, (PL.splitC 62 x).length - N ≤ j → j < (PL.splitC 62 x).length → ((PL.splitC 62 x).getD j []).take 1 ≠ [32]) : lrF x = some (x, none) := by
  have hm : PL.lastMark x = none := by
    rw [PL.mark_split]
    exact PL.mark_none _ fun j h1 h2 => hP j (by rw [hN, Int.sub_zero, show (((PL.splitC 62 x).length : Int) - 1).toNat = (PL.splitC 62 x).length - 1 from Int.toNat_sub _ 1, Nat.sub_sub_self (Nat.lt_of_le_of_lt (Nat.zero_le j) h2)]; exact h1) h2
  unfold lrF; rw [hm]
theorem join_drop (d : UInt8) (x : List UInt8) (k : Nat) : (PL.joinC [d] ((PL.splitC d x).drop k)).length ≤ x.length := by
  have := PL.join_drop_le [d] k (PL.splitC d x)
  rwa [PL.join_split] at this
theorem join_take (d : UInt8) (x : List UInt8) (k : Nat) : (PL.joinC [d] ((PL.splitC d x).take k)).length ≤ x.length := by
  have := PL.join_take_le [d] k (PL.splitC d x)
  rwa [PL.join_split] at this
noncomputable def lrTail (w : World) : List Stmt := (subS ((subS (stAt w 159 1)).1.getD 0 (.Pass default))).1.drop 1
noncomputable def lrO (WS PS : List (List UInt8)) (k : Int) : Line := match wholeF (PL.joinC [32] (WS.take (WS.length - 1))) with
  | none => none
  | some n => (zrF (WS.getD (WS.length - 1) [])).map fun z => (PL.joinC [62] (PS.take k.toNat) ++ [62], some (n, z))
noncomputable def LrPost (g : Heap) (L' : Addr) (s : Shared) (o : Line) (news : Led) (f : Flow) (s' : Shared) : Prop := ∃ v new, f = .ret v ∧ RetLine o v new ∧ ∃ m, Leaves g L' s s' m (new ++ news)
@[elab_as_elim] theorem LrPost.use {g : Heap} {L' : Addr} {s : Shared} {o : Line} {news : Led} {f : Flow} {s' : Shared} {C : Flow → Shared → Prop} (q : LrPost g L' s o news f s')
    (k : ∀ (v : Value) (new : Led) (m : Str → Option Value) (h' : Heap) (tk : Nat), RetLine o v new → Fr g L' h' m → News g L' h' (new ++ news) → C (.ret v) { s with heap := h', toks := tk }) : C f s' := by
  obtain ⟨v, new, rfl, hR, m, h', tk, rfl, F, N⟩ := q
  exact k v new m h' tk hR F N
theorem lr_post {g h' : Heap} {L' : Addr} {s : Shared} {tk : Nat} {o o' : Line} {news led : Led} {m : Str → Option Value} {v : Value} {new : Led} (ho : o = o') (hr : RetLine o' v new) (F : Fr g L' h' m) (N : News g L' h' led) (hs : ∀ p ∈ new ++ news, p ∈ led) : LrPost g L' s o news (.ret v) { s with heap := h', toks := tk } :=
  ⟨v, new, rfl, ho ▸ hr, m, h', tk, rfl, F, fun p hp => N p (hs p hp)⟩
theorem lrO1 {WS PS : List (List UInt8)} {k : Int} (h : wholeF (PL.joinC [32] (WS.take (WS.length - 1))) = none) : lrO WS PS k = none := by unfold lrO; rw [h]
theorem lrO2 {WS PS : List (List UInt8)} {k : Int} {n : Int} (h : wholeF (PL.joinC [32] (WS.take (WS.length - 1))) = some n) (hz : zrF (WS.getD (WS.length - 1) []) = none) : lrO WS PS k = none := by unfold lrO; rw [h, hz]; rfl
theorem lrO3 {WS PS : List (List UInt8)} {k : Int} {n : Int} {z : Int × Bool} (h : wholeF (PL.joinC [32] (WS.take (WS.length - 1))) = some n) (hz : zrF (WS.getD (WS.length - 1) []) = some z) : lrO WS PS k = some (PL.joinC [62] (PS.take k.toNat) ++ [62], some (n, z)) := by unfold lrO; rw [h, hz]; rfl
set_option maxHeartbeats 1000000 in
theorem lr_tail (w : World) (mean : ExcName → Option Value) (mg mb : Str → Option Value) (dp un : Nat) (gd : Option (List Code)) (cn : Str) (cs : Scope) (a : Addr) (ccd : Value) (cl : List (Str × Addr)) (outer : List Env) (base h₀ g : Heap) (L L' : Addr) (m m' : Str → Option Value) (news : Led) (s : Shared) (tkk : Tok) (Dw Dp : Addr) (wsv psv : List Value) (WS PS : List (List UInt8)) (k : Int)
    (hw : BZ.BytesAre wsv WS) (hp : BZ.BytesAre psv PS) (hk0 : 1 ≤ k) (hk1 : k < (PS.length : Int)) (hPS : PS.length ≤ 601) (hWS : WS.length ≤ 601) (hW1 : 1 ≤ WS.length)
    (hj1 : (PL.joinC [32] (WS.take (WS.length - 1))).length ≤ 600) (hj2 : (WS.getD (WS.length - 1) []).length ≤ 600) (hj3 : (PL.joinC [62] (PS.take k.toNat)).length ≤ 600) :
    ∀ (st : List Stmt) (hst : st = lrTail w) (sc : Scope) (hsc : sc = scopeAt w 159)
    (hdp : dp + 2 < recursionLimit) (hun : un + 8 * 2 < cLine)
    (FG : Fr h₀ L g m) (B : Below (ktrTop dp un gd cn cs L a ccd cl outer) base (envX cn cs L a ccd cl :: outer) g) (X : (hd.heap_1 w.params).In g) (T : Top hd.view_1 (looseW hd.view_1 [Str.ofString "format_timezone"]) mean mg mb g)
    (F : Fr g L' s.heap (fun y => if y = Str.ofString "words" then some (.ref Dw) else if y = Str.ofString "k" then some (.int k tkk) else if y = Str.ofString "pieces" then some (.ref Dp) else m' y)) (N : News g L' s.heap ((Dw, PySem.W.listOf wsv.toArray 0) :: (Dp, PySem.W.listOf psv.toArray 0) :: news)),
    wpAny (model Challenge.rw_ai0005_01.row.prog w) ((ktrTop dp un gd cn cs L a ccd cl outer).deeper (envOf (Str.ofString "_law_line_read") sc L' 159 (.ref 158))) (execs st (envOf (Str.ofString "_law_line_read") sc L' 159 (.ref 158)))
      (LrPost g L' s (lrO WS PS k) ((Dw, PySem.W.listOf wsv.toArray 0) :: (Dp, PySem.W.listOf psv.toArray 0) :: news)) (fun _ _ => False) s := by
  k_fill
  intro st hst sc hsc hdp hun FG B X T F N
  conv at hst => rhs; whnf
  conv at hsc => rhs; whnf
  subst hst hsc
  k_steps
  unfold Hold
  refine con_use (whole_con w mean mg mb _ _ hj1) (by k_asm) (by k_asm) (by k_asm) (by k_asm) (by k_asm) (by first | exact rfl | assumption) (by ktr_room) (by ktr_units) ?_
  intro v new h' tk' hR F' N'
  obtain ⟨rfl, hR⟩ := hR
  dsimp only [List.nil_append] at N'
  cases hwf : wholeF (PL.joinC [32] (WS.take (WS.length - 1))) with
  | none =>
    rw [hwf] at hR
    dsimp only at hR
    subst hR
    k_steps
    unfold Hold
    refine con_use (zread_con w mean mg mb _ _ hj2) (by k_asm) (by k_asm) (by k_asm) (by k_asm) (by k_asm) (by first | exact rfl | assumption) (by ktr_room) (by ktr_units) ?_
    intro v new h' tk' hR F' N'
    cases hzf : zrF (WS.getD (WS.length - 1) []) with
    | none =>
      rw [hzf] at hR
      obtain ⟨rfl, rfl⟩ := hR
      dsimp only [List.nil_append] at N'
      k_steps
      exact lr_post (lrO1 hwf) ⟨rfl, rfl⟩ (by assumption) (by assumption) (by (repeat refine sub_cons (by repeat (first | exact .head _ | refine .tail _ ?_)) ?_); exact fun _ h => by repeat (first | exact h | refine .tail _ ?_))
    | some z =>
      rw [hzf] at hR
      obtain ⟨a9, t9, rfl, rfl⟩ := hR
      dsimp only [List.singleton_append] at N'
      k_steps
      exact lr_post (lrO1 hwf) ⟨rfl, rfl⟩ (by assumption) (by assumption) (by (repeat refine sub_cons (by repeat (first | exact .head _ | refine .tail _ ?_)) ?_); exact fun _ h => by repeat (first | exact h | refine .tail _ ?_))
  | some n =>
    rw [hwf] at hR
    dsimp only at hR
    obtain ⟨t9, rfl⟩ := hR
    k_steps
    unfold Hold
    refine con_use (zread_con w mean mg mb _ _ hj2) (by k_asm) (by k_asm) (by k_asm) (by k_asm) (by k_asm) (by first | exact rfl | assumption) (by ktr_room) (by ktr_units) ?_
    intro v new h' tk' hR F' N'
    cases hzf : zrF (WS.getD (WS.length - 1) []) with
    | none =>
      rw [hzf] at hR
      obtain ⟨rfl, rfl⟩ := hR
      dsimp only [List.nil_append] at N'
      k_steps
      exact lr_post (lrO2 hwf hzf) ⟨rfl, rfl⟩ (by assumption) (by assumption) (by (repeat refine sub_cons (by repeat (first | exact .head _ | refine .tail _ ?_)) ?_); exact fun _ h => by repeat (first | exact h | refine .tail _ ?_))
    | some z =>
      rw [hzf] at hR
      obtain ⟨a9, t9, rfl, rfl⟩ := hR
      dsimp only [List.singleton_append] at N'
      k_steps
      exact lr_post (lrO3 hwf hzf) ⟨_, _, _, _, _, rfl, rfl⟩ (by assumption) (by assumption) (by (repeat refine sub_cons (by repeat (first | exact .head _ | refine .tail _ ?_)) ?_); exact fun _ h => by repeat (first | exact h | refine .tail _ ?_))
theorem lr_in {g h : Heap} {L : Addr} {M : Str → Option Value} {Dw Dp : Addr} {k : Int} {t : Tok} (F : Fr g L h M) (h1 : M (Str.ofString "words") = some (.ref Dw)) (h2 : M (Str.ofString "k") = some (.int k t)) (h3 : M (Str.ofString "pieces") = some (.ref Dp)) :
    Fr g L h (fun y => if y = Str.ofString "words" then some (.ref Dw) else if y = Str.ofString "k" then some (.int k t) else if y = Str.ofString "pieces" then some (.ref Dp) else M y) := by
  refine fr_ext F fun y => ?_
  by_cases q1 : y = Str.ofString "words"
  · rw [if_pos q1, q1, h1]
  by_cases q2 : y = Str.ofString "k"
  · rw [if_neg q1, if_pos q2, q2, h2]
  by_cases q3 : y = Str.ofString "pieces"
  · rw [if_neg q1, if_neg q2, if_pos q3, q3, h3]
  rw [if_neg q1, if_neg q2, if_neg q3]
theorem lr_found' {x : List UInt8} {k : Int} {i : Nat} (hki : k = ((PL.splitC 62 x).length : Int) - 1 - (i : Int)) (hk0 : 1 ≤ k) (hk1 : k < ((PL.splitC 62 x).length : Int)) (h32 : BY.cut none (some 1) ((PL.splitC 62 x).getD k.toNat []) = [32])
    (hP : ∀ j, (PL.splitC 62 x).length - i ≤ j → j < (PL.splitC 62 x).length → ((PL.splitC 62 x).getD j []).take 1 ≠ [32]) :
    lrF x = lrO (PL.splitC 32 (BY.cut (some 1) none (PL.joinC [62] ((PL.splitC 62 x).drop k.toNat)))) (PL.splitC 62 x) k := lr_found hki hk0 hk1 h32 hP _ rfl
theorem told_C9_16 : True := by
  k_with "execs cons" => ((k_here; (with_reducible show wpAny _ _ (execs (Stmt.Assign [PySem.Expr.Name (Str.ofString "when") _] _ _ :: _) _) _ _ _); refine hold ?_))
  trivial
set_option maxHeartbeats 1000000 in
theorem lread_con (w : World) (mean : ExcName → Option Value) (mg mb : Str → Option Value) (x : List UInt8) (tx : Tok) (hx : x.length ≤ 600) : Con w mean mg mb 2 159 [.bytes x.toArray tx] (RetLine (lrF x)) := by
  unfold Con
  k_fill
  intro dp un gd cn cs a ccd cl outer A₀ base h₀ L m news s Q E B F X N T hk hd hu hret
  have hp1 := PL.split_pos 62 x
  have hp2 := PL.split_len 62 x
  refine wpAny_call ?_
  w_strict (k_dflt cell_enter; k_steps)
  unfold Hold
  rename Fr _ _ _ _ => F'
  rename News _ _ _ _ => N'
  rename IsRange _ _ _ _ _ _ _ _ => rgX
  refine BS.down_search [Str.ofString "words", Str.ofString "when", Str.ofString "zone"] (fun i => ∀ j, (PL.splitC 62 x).length - i ≤ j → j < (PL.splitC 62 x).length → ((PL.splitC 62 x).getD j []).take 1 ≠ [32]) rfl rgX (small_down (by omega) (by omega) (by decide) (by decide)) (rangeSize_downNat _ _) F' N' ?_ ?_ ?_
  · intro j h1 h2; omega
  · clear F' N' rgX
    intro i k t u h tk own hki hi hP F' N'
    have hk0 : 1 ≤ k := by omega
    have hk1 : k < ((PL.splitC 62 x).length : Int) := by rw [hki]; exact Int.lt_of_le_of_lt (Int.sub_le_self _ (Int.natCast_nonneg i)) (Int.sub_lt_self _ (by decide))
    have hk2 : ((PL.splitC 62 x).getD k.toNat []).length ≤ 600 := Nat.le_trans (getD_len _) hx
    have hj1 : (PL.joinC [62] ((PL.splitC 62 x).drop k.toNat)).length ≤ 600 := Nat.le_trans (join_drop _ _ _) hx
    have hj3 : (BY.cut (some 1) none (PL.joinC [62] ((PL.splitC 62 x).drop k.toNat))).length ≤ 600 := Nat.le_trans (BY.cut_length ..) hj1
    try k_fold
    k_steps
    · unfold Hold
      have hlr := lr_found' hki hk0 hk1 (by assumption) hP
      have hj2 : (PL.joinC [62] ((PL.splitC 62 x).take k.toNat)).length ≤ 600 := Nat.le_trans (join_take _ _ _) hx
      have hw1 := PL.split_pos 32 (BY.cut (some 1) none (PL.joinC [62] ((PL.splitC 62 x).drop k.toNat)))
      have hw2 : (PL.splitC 32 (BY.cut (some 1) none (PL.joinC [62] ((PL.splitC 62 x).drop k.toNat)))).length ≤ 601 := Nat.le_trans (PL.split_len _ _) (by omega)
      have hw3 := Nat.le_trans (join_take 32 (BY.cut (some 1) none (PL.joinC [62] ((PL.splitC 62 x).drop k.toNat))) ((PL.splitC 32 (BY.cut (some 1) none (PL.joinC [62] ((PL.splitC 62 x).drop k.toNat)))).length - 1)) hj3
      have hw4 := Nat.le_trans (getD_len (d := 32) (x := BY.cut (some 1) none (PL.joinC [62] ((PL.splitC 62 x).drop k.toNat))) ((PL.splitC 32 (BY.cut (some 1) none (PL.joinC [62] ((PL.splitC 62 x).drop k.toNat)))).length - 1)) hj3
      rename Fr _ _ _ _ => F'
      rename News _ _ _ _ => N'
      refine wpAny_mono (lr_tail w mean mg mb dp un gd cn cs a ccd cl outer base h₀ _ L _ m _ news _ _ _ _ _ _ _ (PL.splitC 62 x) k (by with_reducible assumption) (by with_reducible assumption) hk0 hk1 (by omega) hw2 hw1 hw3 hw4 hj2 _ rfl _ rfl hd hu (by assumption) (by assumption) (by assumption) (by assumption) (lr_in F' (by with_unfolding_all rfl) (by with_unfolding_all rfl) (by with_unfolding_all rfl)) (news_sub N' (by (repeat refine sub_cons (by repeat (first | exact .head _ | refine .tail _ ?_)) ?_); exact fun _ h => by repeat (first | exact h | exact List.mem_append_left _ h | refine .tail _ ?_)))) (fun _ _ q => LrPost.use q ?_) (fun _ _ h => h.elim)
      intro v new m9 h9 tk9 hR F9 N9
      clear F' N' hw1 hw2 hw3 hw4 hj1 hj2 hj3 hP hk0 hk1 hk2 hki hi hp1 hp2
      dsimp only [BS.DsPost]
      k_steps
      rw [hlr] at hret
      exact hret v new _ _ hR (by assumption) (by first | exact news_keep (by assumption) (fun p hp => by first | exact hp | exact .tail _ hp | exact .tail _ (.tail _ hp) | exact .tail _ (.tail _ (.tail _ hp)) | exact .tail _ (.tail _ (.tail _ (.tail _ hp))) | exact .tail _ (.tail _ (.tail _ (.tail _ (.tail _ hp)))) | exact .tail _ (.tail _ (.tail _ (.tail _ (.tail _ (.tail _ hp)))))) | exact news_sub (by assumption) (fun p hp => by simp only [List.mem_cons, List.mem_append] at hp ⊢; rcases hp with h | h <;> simp [h]))
    · refine ⟨_, _, _, _, rfl, by assumption, by assumption, fun p hp => hp, fun z h1 h2 => ?_, fun j h1 h2 => ?_⟩
      · dsimp only
        rw [if_neg h1, h2]; rfl
      · by_cases q : (PL.splitC 62 x).length - i ≤ j
        · exact hP j q h2
        · have hn := lr_nat hki hk0
          have : j = k.toNat := by
            rw [hn] at h1 q
            rw [Nat.add_sub_cancel] at q
            rw [Nat.add_right_comm, Nat.add_assoc, Nat.add_sub_cancel] at h1
            exact Nat.le_antisymm (Nat.le_of_lt_succ (Nat.not_le.mp q)) h1
          subst this
          rw [← cut_to1]; assumption
  · intro u h tk hP F' N'
    have hlr := lr_none rfl hP
    k_steps
    rw [hlr] at hret
    exact end2 hret (by assumption) (news_one2b (by assumption)) ⟨_, _, _, rfl, rfl⟩
end
section
open _root_.PySem _root_.PySem.W _root_.PySem.Spec _root_.PySem.Calls _root_.PyProof.Rows
section
open _root_.PySem _root_.PySem.W _root_.PySem.Spec _root_.PySem.Calls _root_.PyProof.Rows
theorem told_CF : True := by
  k_with_none
  w_top off
  k_with "own omega" => (with_reducible first | exact om6 (by assumption) rfl | exact om0 (by assumption) | exact om2 (by assumption) rfl | exact om3 (by assumption) rfl | exact om4 (by assumption) rfl | exact Int.emod_nonneg _ (by decide) | exact Int.emod_lt_of_pos _ (by decide) | exact om8 (by assumption) rfl | exact om9 (by assumption) rfl)
  k_with "storeName" => ((k_here; k_dflt (first | ((with_reducible show wpAny _ _ (storeName _ _ (Value.int _ _)) _ _ _); refine storeG_int (by k_asm) (by k_asm) ?_ (by rfl) (by rfl); intro hq9 tq9 kq9 Fq9 Nq9) | ((with_reducible show wpAny _ _ (storeName _ _ (Value.bytes _ _)) _ _ _); refine storeG_bytes (by k_asm) (by k_asm) ?_ (by rfl) (by rfl); intro hq9 tq9 kq9 Fq9 Nq9) | (refine storeG_any (by k_asm) (by k_asm) ?_ (by rfl) (by rfl); intro hq9 kq9 Fq9 Nq9)); (try k_sweep)))
  k_with "Go" => (refine go_on (by assumption) ?_)
  k_with "own kby_size" => ((first | assumption | omega | (simp only [List.length_append, List.length_cons, List.length_nil] at *; omega)))
  k_with "subscriptTail" => ((k_here; (with_reducible show wpAny _ _ (subscriptTail _ (Expr.Slice _ _ none _) (Value.bytes (List.toArray _) _) (Value.ref _)) _ _ _); (with_reducible rename Fr _ _ _ _ => Fq9); (with_reducible rename News _ _ _ _ => Nq9); (refine BY.slice_L (s := ⟨_, _, _, _, _⟩) Fq9 Nq9 (by constructor) (by constructor) (by kby_size) ?_); intro _ _ _ Fq9 Nq9 hlenq9))
  k_with "binaryOp Add bytes bytes" => ((k_here; (with_reducible show wpAny _ _ (binaryOp Operator.Add (Value.bytes (List.toArray _) _) (Value.bytes (List.toArray _) _)) _ _ _); (refine BY.add_L (by kby_size) ?_); intro _ _))
  k_with "compareOp Eq bytes bytes" => ((k_here; (with_reducible show wpAny _ _ (compareOp CmpOp.Eq (Value.bytes (List.toArray _) _) (Value.bytes (List.toArray _) _)) _ _ _); (refine BY.eq_L ?_)))
  k_with "compareOp NotEq bytes bytes" => ((k_here; (with_reducible show wpAny _ _ (compareOp CmpOp.NotEq (Value.bytes (List.toArray _) _) (Value.bytes (List.toArray _) _)) _ _ _); (refine BY.ne_L ?_)))
  k_with "subscriptTail" => ((k_here; (with_reducible show wpAny _ _ (subscriptTail _ _ (Value.bytes (List.toArray _) _) (Value.int _ _)) _ _ _); (refine BY.item_L (by kby_size) (by first | decide | omega) (by first | omega | (simp only [List.length_append, List.length_cons, List.length_nil] at *; omega)) ?_); intro _ _))
  k_with "compareOp NotIn int bytes" => ((k_here; (with_reducible show wpAny _ _ (compareOp CmpOp.NotIn (Value.int _ _) (Value.bytes (List.toArray _) _)) _ _ _); (refine BY.notIn_B ?_)))
  k_with "call type:int" => ((k_here; (with_reducible show wpAny _ _ (call (Value.type "int") [Value.bytes (List.toArray _) _]) _ _ _); (refine IR.call_int_bytes (by assumption) (by assumption) ?_)))
  k_with "getMethod bytes" => ((k_here; first | (with_reducible refine BW.meth_rindex ?_) | (with_reducible refine BW.meth_rsplit ?_) | (with_reducible refine BW.meth_split ?_) | (with_reducible refine BW.meth_join ?_)))
  k_with "call builtin:bytes.rindex" => ((k_here; first
  | (refine BW.rindex_found (by with_reducible assumption) ?_; intro _ _)
  | (refine BW.rindex_not (by with_reducible assumption) (by first | exact rfl | assumption) ?_; intro _ _ _ _ hxq9)))
  k_with "call builtin:bytes.rsplit" => ((k_here; first
  | (refine BW.rsplit_two (by k_asm) (by k_asm) (by kby_size) (by with_reducible assumption) ?_; intro Dq9 t1q9 t2q9 hq9 kq9 Fq9 Nq9 l1q9; (try k_lt l1q9))
  | (refine BW.rsplit_one (by k_asm) (by k_asm) (by kby_size) (by with_reducible assumption) ?_; intro Dq9 t1q9 hq9 kq9 Fq9 Nq9 l1q9; (try k_lt l1q9))))
  k_with "call builtin:bytes.split" => ((k_here; (refine BW.split_L (by k_asm) (by k_asm) (by kby_size) ?_); intro Dq9 vsq9 hq9 kq9 hvsq9 Fq9 Nq9 l1q9; (try k_lt l1q9)))
  k_with "call builtin:bytes.join" => ((k_here; (refine BW.join_L (News.isList (by k_asm) (by k_mem)) (by with_reducible assumption) (by kby_size) ?_); intro _ _))
  k_with "assign Tuple" => ((k_here; (with_reducible show wpAny _ _ (assign (Expr.Tuple _ _ _) _ (Value.ref _)) _ _ _); (refine BW.unpack_one (News.isList (by k_asm) (by k_mem)) (by exact rfl) (by exact rfl) (by exact rfl) ?_); intro _ _ _ _ hxq9))
  k_with "subscriptTail" => ((k_here; (with_reducible show wpAny _ _ (subscriptTail _ _ (Value.ref _) (Value.int _ _)) _ _ _); (refine BW.item_BL (News.isList (by k_asm) (by k_mem)) (by with_reducible assumption) (by first | assumption | omega) (by first | assumption | omega) (by first | assumption | omega) ?_); intro _))
  k_with "noteFrame ref" => ((k_here; k_dflt ((with_reducible rename Heap.MadeExc _ _ _ _ _ => hxMq9); (refine look_made2 (Heap.MadeExc.of hxMq9) (by k_asm) (by k_asm) (by assumption) ?_); clear hxMq9; intro hq9 tq9 Gq9 Fq9 Rq9 alq9 Uq9; (try dsimp only at Rq9 Uq9 ⊢))))
  k_with "leaving ref" => ((k_here; k_dflt ((with_reducible rename KtsDicts _ _ => kdX); (with_reducible rename Heap.MadeExc _ _ _ _ _ => hxMq9); (refine leave_raise2 (by assumption) (Heap.MadeExc.of hxMq9) (by assumption) (by k_asm) ?_); intro hq9 tq9 Sq9 alq9 Uq9; (have Rq9 := RaisedS.toK Sq9); (try dsimp only at Sq9 Rq9 Uq9 ⊢))))
  k_with "noteFrame ref" => ((k_here; k_dflt ((rename RaisedS _ _ _ _ _ _ _ _ _ => rsX); (with_reducible rename Alone _ _ => alX); (with_reducible show wpAny _ _ (noteFrame _ _) (fun _ s₂ => wpAny _ _ (setFlight _ none) (fun _ s₃ => wpAny _ _ (handleBy _ _ [ExceptHandler.ExceptHandler _ (some _) [Stmt.Raise (some _) (some _) _] _]) _ _ s₃) _ s₂) _ _); (refine look_on2 rsX alX (by assumption) (by assumption) ?_); intro hq9 Rq9 alq9 Uq9; (try dsimp only at Rq9 Uq9 ⊢))))
  k_with "handleBy ref" => ((k_here; k_dflt ((with_reducible rename Alone _ _ => alX); (refine hit2 (by assumption) alX (by assumption) (by assumption) (by assumption) (by assumption) (by assumption) (by assumption) (by kts_test) PySem.F.excBase_Exception PySem.F.excRaise_ValueError (by k_is) (by k_exc) ?_ (fun _ _ hh => hh)); intro hq9 tkq9 e2q9 t2q9 Rq9 RKq9 Uq9; (try dsimp only at Rq9 RKq9 Uq9 ⊢))))
  k_with "getMethod str" => ((k_here; (with_reducible refine BE.meth_encode ?_)))
  k_with "binaryOp Mod str ref" => ((k_here; (with_reducible show wpAny _ _ (binaryOp Operator.Mod (Value.str _ _) (Value.ref _)) _ _ _); k_dflt ((refine BF.fmt_rule (by k_asm) (by k_mem) (by decide +kernel) (by first | exact PG.fd1 (by omega) | exact PG.fd2 (by omega)) PG.fd3 ?_); intro _ _)))
  k_with "call builtin:str.encode" => ((k_here; k_dflt ((refine BE.encode (BF.ascii_fmt _ _ (by decide +kernel)) (BF.size_fmt (by decide +kernel) (by first | exact PG.fd1 (by omega) | exact PG.fd2 (by omega)) PG.fd3) ?_); intro _ _)))
  k_with "call type:str" => ((k_here; k_dflt (refine P.str_of_int (BF.log_lt (by omega)) ?_)))
  k_with "call builtin:str.encode" => ((k_here; k_dflt ((refine BE.encode (BF.ascii_int _) (PH.size_int (by omega)) ?_); intro _ _)))
  k_with "call builtin:bytes.join" => ((k_here; k_dflt ((refine BW.join_L (News.isList (by k_asm) (by k_mem)) (bytesAre_cons (bytesAre_cons (bytesAre_cons bytesAre_nil))) (PH.join3 (by assumption) (Nat.le_trans (PH.octs_int_len (by omega)) (by decide)) (Nat.le_trans (PH.octs_fmt_len (by decide +kernel) (by first | exact PG.fd1 (by omega) | exact PG.fd2 (by omega)) PG.fd3) (by decide))) ?_); intro _ _)))
  k_with "subscriptTail" => ((k_here; (with_reducible show wpAny _ _ (subscriptTail _ (PySem.Expr.Slice _ _ none _) (Value.ref _) (Value.ref _)) _ _ _); k_dflt (first
  | (refine BS.slice_from (by k_asm) (by k_asm) (News.isList (by k_asm) (by k_mem)) (by with_reducible assumption) (by constructor) (by constructor) (by omega) (by (try simp only [List.length_drop, List.length_take]); omega) ?_)
  | (refine BS.slice_upto (by k_asm) (by k_asm) (News.isList (by k_asm) (by k_mem)) (by with_reducible assumption) (by constructor) (by constructor) (by omega) (by (try simp only [List.length_drop, List.length_take]); omega) ?_)
  | (refine BS.slice_less (by k_asm) (by k_asm) (News.isList (by k_asm) (by k_mem)) (by with_reducible assumption) (by constructor) (by constructor) (by (try simp only [List.length_drop, List.length_take]); omega) ?_)); intro Dq9 wsq9 hq9 hvsq9 Fq9 Nq9 l1q9; (try k_lt l1q9)))
  k_with "subscriptTail" => ((k_here; (with_reducible show wpAny _ _ (subscriptTail _ _ (Value.ref _) (Value.int (-1) _)) _ _ _); (refine BS.item_last (News.isList (by k_asm) (by k_mem)) (by with_reducible assumption) (by first | assumption | omega) (by first | assumption | omega) ?_); intro _))
  k_with "call builtin:len" => ((k_here; (with_reducible show wpAny _ _ (call (Value.builtin "len") [Value.ref _]) _ _ _); (refine BS.len_B (News.isList (by k_asm) (by k_mem)) (by with_reducible assumption) (by (try simp only [List.length_drop, List.length_take]); omega) ?_); intro _ _))
  k_with "call builtin:divmod" => ((k_here; (with_reducible show wpAny _ _ (call (Value.builtin _) [Value.int _ _, Value.int _ _]) _ _ _); (refine divmod_K (by k_asm) (by k_asm) (by first | assumption | omega) (by assumption) ?_); intro Dq9 hq9 _ _ _ Fq9 Nq9 l1q9; (try k_lt l1q9)))
  trivial
theorem told_CF_17 : True := by
  k_with "call ref" => ((k_here; (with_reducible show wpAny _ _ (call (Value.ref 96) _) _ _ _); refine hold ?_))
  k_with "call ref" => ((k_here; (with_reducible show wpAny _ _ (call (Value.ref 103) _) _ _ _); refine hold ?_))
  trivial
noncomputable def digs (x : List UInt8) : Prop := ∀ c ∈ x, 48 ≤ c.toNat ∧ c.toNat ≤ 57
noncomputable def FigOk (y : List UInt8) : Prop := y.length ≤ 21 ∧ ∃ a b, digs a ∧ digs b ∧ (y = a ++ b ∨ ∃ o ∈ PF.odd, y = a ++ o :: b ∧ (o = 32 → a ≠ [] ∧ b ≠ []))
noncomputable def RetP (P : List UInt8 → Prop) (v : Value) (new : Led) : Prop := ∃ y t, v = .bytes y.toArray t ∧ new = [] ∧ P y
@[elab_as_elim] theorem RetP.use {P : List UInt8 → Prop} {v : Value} {new : Led} {C : Value → Led → Prop} (q : RetP P v new) (k : ∀ (y : List UInt8) (t : Tok), P y → C (.bytes y.toArray t) []) : C v new := by
  obtain ⟨y, t, rfl, rfl, h⟩ := q
  exact k y t h
theorem odd_all : ∀ j : Fin 20, ∃ o ∈ PF.odd, BY.cut (some ((j.val : Nat) : Int)) (some (((j.val : Nat) : Int) + 1)) PF.odd = [o] := by decide
theorem odd_cut (k : Int) : ∃ o ∈ PF.odd, BY.cut (some (k.fmod 20)) (some (k.fmod 20 + 1)) [47, 58, 46, 44, 120, 88, 97, 101, 76, 60, 62, 43, 45, 32, 0, 127, 128, 178, 185, 255] = [o] := by
  rw [Int.fmod_eq_emod_of_nonneg _ (by decide)]
  obtain ⟨j, hj, e⟩ : ∃ j : Nat, j < 20 ∧ k % 20 = (j : Int) := ⟨(k % 20).toNat, atN (Int.emod_nonneg _ (by decide)) (Int.emod_lt_of_pos _ (by decide)), (Int.toNat_of_nonneg (Int.emod_nonneg _ (by decide))).symm⟩
  rw [e]
  exact odd_all ⟨j, hj⟩
theorem digs_take {y : List UInt8} (h : digs y) (n : Nat) : digs (y.take n) := fun c hc => h c (List.mem_of_mem_take hc)
theorem digs_drop {y : List UInt8} (h : digs y) (n : Nat) : digs (y.drop n) := fun c hc => h c (List.mem_of_mem_drop hc)
theorem fig_e1 {y : List UInt8} (hy : digs y) (hl : y.length ≤ 20) : FigOk y := ⟨Nat.le_trans hl (by decide), y, [], hy, (fun _ h => nomatch h), .inl (by simp)⟩
theorem fmp (n : Int) (L : Nat) : 0 ≤ n.fmod ((L : Int) + 1) ∧ n.fmod ((L : Int) + 1) ≤ (L : Int) := by
  rw [Int.fmod_eq_emod_of_nonneg (b := (L : Int) + 1) _ (Int.natCast_nonneg (L + 1))]
  exact ⟨Int.emod_nonneg n fun q => Nat.succ_ne_zero L (Int.ofNat.inj q), Int.le_of_lt_add_one (Int.emod_lt_of_pos n (Int.ofNat_lt.mpr (Nat.succ_pos L)))⟩
section
variable {y : List UInt8} {k n : Int} (hy : digs y) (hl : y.length ≤ 20)
include hy hl
theorem fig_go {o : UInt8} {p : Int} (h0 : 0 ≤ p) (h1 : p ≤ (y.length : Int)) (ho : o ∈ PF.odd) (h : o = 32 → p ≠ 0 ∧ p ≠ (y.length : Int)) : FigOk (BY.cut none (some p) y ++ [o] ++ BY.cut (some p) none y) := by
  obtain ⟨j, rfl⟩ := Int.eq_ofNat_of_zero_le h0
  have hj : j ≤ y.length := Int.ofNat_le.mp h1
  rw [cut_to, cut_from]
  refine ⟨by simp only [List.length_append, List.length_take, List.length_drop, List.length_cons, List.length_nil]; rw [Nat.min_eq_left hj, Nat.add_right_comm, Nat.add_sub_cancel' hj]; exact Nat.add_le_add_right hl 1, _, _, digs_take hy j, digs_drop hy j, .inr ⟨o, ho, by simp, fun e => ?_⟩⟩
  obtain ⟨h2, h3⟩ := h e
  refine ⟨fun q => ?_, fun q => ?_⟩
  · have := congrArg List.length q
    rw [List.length_take, List.length_nil, Nat.min_eq_left hj] at this
    exact h2 (congrArg Int.ofNat this)
  · have := congrArg List.length q
    rw [List.length_drop, List.length_nil] at this
    exact h3 (congrArg Int.ofNat (Nat.le_antisymm hj (Nat.sub_eq_zero_iff_le.mp this)))
theorem fig_e2 : FigOk (BY.cut none (some (n.fmod ((y.toArray.size : Int) + 1))) y ++ [120] ++ BY.cut (some (n.fmod ((y.toArray.size : Int) + 1))) none y) :=
  fig_go hy hl (fmp n _).1 (fmp n _).2 (by decide) (fun h => by cases h)
theorem fig_e3 (h0 : n.fmod ((y.toArray.size : Int) + 1) ≠ 0) (h1 : n.fmod ((y.toArray.size : Int) + 1) ≠ (y.toArray.size : Int)) :
    FigOk (BY.cut none (some (n.fmod ((y.toArray.size : Int) + 1))) y ++ BY.cut (some (k.fmod 20)) (some (k.fmod 20 + 1)) [47, 58, 46, 44, 120, 88, 97, 101, 76, 60, 62, 43, 45, 32, 0, 127, 128, 178, 185, 255] ++ BY.cut (some (n.fmod ((y.toArray.size : Int) + 1))) none y) := by
  obtain ⟨o, ho, eo⟩ := odd_cut k
  rw [eo]
  exact fig_go hy hl (fmp n _).1 (fmp n _).2 ho (fun _ => ⟨h0, h1⟩)
theorem fig_e4 (hs : ¬ BY.cut (some (k.fmod 20)) (some (k.fmod 20 + 1)) [47, 58, 46, 44, 120, 88, 97, 101, 76, 60, 62, 43, 45, 32, 0, 127, 128, 178, 185, 255] = [32]) :
    FigOk (BY.cut none (some (n.fmod ((y.toArray.size : Int) + 1))) y ++ BY.cut (some (k.fmod 20)) (some (k.fmod 20 + 1)) [47, 58, 46, 44, 120, 88, 97, 101, 76, 60, 62, 43, 45, 32, 0, 127, 128, 178, 185, 255] ++ BY.cut (some (n.fmod ((y.toArray.size : Int) + 1))) none y) := by
  obtain ⟨o, ho, eo⟩ := odd_cut k
  rw [eo] at hs ⊢
  exact fig_go hy hl (fmp n _).1 (fmp n _).2 ho (fun h => absurd (by rw [h]) hs)
end
set_option maxHeartbeats 1000000 in
theorem fig_tail (w : World) (mean : ExcName → Option Value) (mg mb : Str → Option Value) (dp un : Nat) (gd : Option (List Code)) (cn : Str) (cs : Scope) (a : Addr) (ccd : Value) (cl : List (Str × Addr)) (outer : List Env) (base h₀ g : Heap) (L L' : Addr) (m m' : Str → Option Value) (news : Led) (s : Shared) (t0 t1 t2 : Tok) (y : List UInt8) (k f : Int)
    (hy : digs y) (hl : y.length ≤ 20) :
    ∀ (st : List Stmt) (hst : st = (bodyAt w 110).drop 3) (sc : Scope) (hsc : sc = scopeAt w 110)
    (hdp : dp + 2 < recursionLimit) (hun : un + 8 * 2 < cLine)
    (FG : Fr h₀ L g m) (B : Below (ktrTop dp un gd cn cs L a ccd cl outer) base (envX cn cs L a ccd cl :: outer) g) (X : (hd.heap_1 w.params).In g) (T : Top hd.view_1 (looseW hd.view_1 [Str.ofString "format_timezone"]) mean mg mb g)
    (F : Fr g L' s.heap (fun z => if z = Str.ofString "text" then some (.bytes y.toArray t0) else if z = Str.ofString "fault" then some (.int f t1) else if z = Str.ofString "number" then some (.int k t2) else m' z)) (N : News g L' s.heap news),
    wpAny (model Challenge.rw_ai0005_01.row.prog w) ((ktrTop dp un gd cn cs L a ccd cl outer).deeper (envOf (Str.ofString "_law_figures") sc L' 110 (.ref 109))) (execs st (envOf (Str.ofString "_law_figures") sc L' 110 (.ref 109)))
      (RetPost g L' s (RetP FigOk) news) (fun _ _ => False) s := by
  k_fill
  intro st hst sc hsc hdp hun FG B X T F N
  conv at hst => rhs; whnf
  conv at hsc => rhs; whnf
  subst hst hsc
  k_steps
  all_goals dsimp only
  all_goals refine ret_post0 ⟨_, _, rfl, rfl, ?_⟩ (by assumption) (by (first | (first | (with_reducible assumption) | (refine kst_newsOf (by with_reducible assumption) (fun p hp => ?_); simp only [List.mem_cons, List.mem_append, List.cons_append, List.nil_append, hp, or_true, true_or])) | (first | (assumption) | (apply news_tail; assumption) | (apply news_tail; apply news_tail; assumption) | (apply news_tail; apply news_tail; apply news_tail; assumption) | (apply news_tail; apply news_tail; apply news_tail; apply news_tail; assumption) | (apply news_tail; apply news_tail; apply news_tail; apply news_tail; apply news_tail; assumption))))
  · exact fig_e1 hy hl
  · exact fig_e2 hy hl
  · exact fig_e2 hy hl
  · exact fig_e3 hy hl (by assumption) (by assumption)
  · exact fig_e4 hy hl (by assumption)
theorem written_ok : ∀ y ∈ PF.written, (∀ c ∈ y, 48 ≤ c.toNat ∧ c.toNat ≤ 57) ∧ y.length ≤ 20 := by decide
theorem written_at {i : Int} (h0 : 0 ≤ i) (h1 : i < 12) : digs (PF.written.getD i.toNat []) ∧ (PF.written.getD i.toNat []).length ≤ 20 := by
  have hi : i.toNat < PF.written.length := show i.toNat < 12 from atN h0 h1
  rw [List.getD_eq_getElem?_getD, List.getElem?_eq_getElem hi]
  exact written_ok _ (List.getElem_mem hi)
theorem sizes_ok : ∀ y ∈ PF.sizes, 0 ≤ y ∧ y ≤ 20 := by decide
theorem sizes_at {i : Int} (h0 : 0 ≤ i) (h1 : i < 12) : 0 ≤ PF.sizes.getD i.toNat 0 ∧ PF.sizes.getD i.toNat 0 ≤ 20 := by
  have hi : i.toNat < PF.sizes.length := show i.toNat < 12 from atN h0 h1
  rw [List.getD_eq_getElem?_getD, List.getElem?_eq_getElem hi]
  exact sizes_ok _ (List.getElem_mem hi)
theorem ten_ne (j : Nat) : (10 : Int) ^ j ≠ 0 := Int.ne_of_gt (Int.pow_pos (by decide))
theorem ten_log {e : Int} (h1 : e ≤ 20) : ((10 : Int) ^ e.toNat).natAbs.log2 < 9000 := by
  have e1 : ((10 : Int) ^ e.toNat).natAbs = 10 ^ e.toNat := by rw [Int.natAbs_pow]; rfl
  have h2 : 10 ^ e.toNat ≤ 10 ^ 20 := Nat.pow_le_pow_right (by decide) (Int.toNat_le.mpr h1)
  have h3 : 0 < 10 ^ e.toNat := Nat.pow_pos (by decide)
  rw [e1]
  have := (Nat.log2_lt (n := 10 ^ e.toNat) (k := 200) (Nat.ne_of_gt h3)).mpr (Nat.lt_of_le_of_lt h2 (by decide))
  exact om6 this rfl
theorem ten_add {d : Int} {j : Nat} (hj : j ≤ 20) (h0 : 0 ≤ d) (h1 : d < 10 ^ j) : ((10 : Int) ^ j + d).natAbs < 10 ^ 21 := by
  obtain ⟨D, rfl⟩ := Int.eq_ofNat_of_zero_le h0
  have e : (10 : Int) ^ j = ((10 ^ j : Nat) : Int) := (Int.natCast_pow 10 j).symm
  rw [e] at h1 ⊢
  have h2 := Nat.pow_le_pow_right (n := 10) (by decide) hj
  show 10 ^ j + D < 10 ^ 21
  exact Nat.lt_of_lt_of_le (Nat.add_lt_add_of_le_of_lt h2 (Nat.lt_of_lt_of_le (Int.ofNat_lt.mp h1) h2)) (by decide)
theorem drawn_ok {e d : Int} (h0 : 0 ≤ e) (h1 : e ≤ 20) (hd0 : 0 ≤ d) (hd1 : d < 10 ^ e.toNat) : digs ((decI (10 ^ e.toNat + d)).drop 1) ∧ ((decI (10 ^ e.toNat + d)).drop 1).length ≤ 20 := by
  unfold decI
  rw [if_neg (Int.not_lt.mpr (Int.add_nonneg (Int.le_of_lt (Int.pow_pos (by decide))) hd0))]
  refine ⟨fun c hc => PJ.dec_mem (List.mem_of_mem_drop hc), ?_⟩
  rw [List.length_drop]; exact Nat.sub_le_sub_right (PD.dec_len 21 _ (by decide) (ten_add (Int.toNat_le.mpr h1) hd0 hd1)) 1
theorem drawn_size {e d : Int} (h1 : e ≤ 20) (hd0 : 0 ≤ d) (hd1 : d < 10 ^ e.toNat) : ((10 : Int) ^ e.toNat + d).natAbs < 10 ^ 62 :=
  om6 (ten_add (Int.toNat_le.mpr h1) hd0 hd1) rfl
theorem told_CF_18 : True := by
  k_with "execs cons" => ((k_here; (with_reducible show wpAny _ _ (execs (Stmt.If (PySem.Expr.Compare (PySem.Expr.Name (Str.ofString "fault") _) _ _ _) _ _ _ :: _) _) _ _ _); refine hold ?_))
  trivial
set_option maxHeartbeats 1000000 in
theorem figures_con (w : World) (mean : ExcName → Option Value) (mg mb : Str → Option Value) (n : Int) (tn : Tok) : Con w mean mg mb 2 110 [.int n tn] (RetP FigOk) := by
  unfold Con
  k_fill
  intro dp un gd cn cs a ccd cl outer A₀ base h₀ L m news s Q E B F X N T hk hd hu hret
  refine wpAny_call ?_
  w_strict (k_dflt cell_enter; k_steps)
  · unfold Hold
    have hp0 : 0 ≤ n.fmod 24 := by rw [Int.fmod_eq_emod_of_nonneg _ (by decide)]; omega
    have hp1 : n.fmod 24 < (PF.written.length : Int) := by rw [show PF.written.length = 12 by decide]; assumption
    refine con_use (written_con w mean mg mb) (by k_asm) (by k_asm) (by k_asm) (by k_asm) (by k_asm) (by first | exact rfl | assumption) (by ktr_room) (by ktr_units) ?_
    intro v new h' tk' hR F'
    refine retL_use hR ?_
    intro a9 vs9 hB9 N'
    clear hR
    dsimp only [List.singleton_append] at N'
    k_steps
    unfold Hold
    have hw := written_at hp0 (by omega)
    rename Fr _ _ _ _ => F'
    rename News _ _ _ _ => N'
    refine wpAny_mono (fig_tail w mean mg mb dp un gd cn cs a ccd cl outer base h₀ _ L _ m _ _ _ _ _ _ _ _ _ hw.1 hw.2 _ rfl _ rfl hd hu (by assumption) (by assumption) (by assumption) (by assumption) (in3 F' (by with_unfolding_all rfl) (by with_unfolding_all rfl) (by with_unfolding_all rfl)) N') (fun _ _ q => RetPost.use q ?_) (fun _ _ h => h.elim)
    intro v new m9 h9 tk9 hR F9 N9
    clear F' N'
    dsimp only
    revert N9; refine RetP.use hR ?_; intro y t hy N9
    k_steps
    exact end0 hret (by assumption) (by (first | (first | (with_reducible assumption) | (refine kst_newsOf (by with_reducible assumption) (fun p hp => ?_); simp only [List.mem_cons, List.mem_append, List.cons_append, List.nil_append, hp, or_true, true_or])) | (first | (assumption) | (apply news_tail; assumption) | (apply news_tail; apply news_tail; assumption) | (apply news_tail; apply news_tail; apply news_tail; assumption) | (apply news_tail; apply news_tail; apply news_tail; apply news_tail; assumption) | (apply news_tail; apply news_tail; apply news_tail; apply news_tail; apply news_tail; assumption)))) ⟨_, _, rfl, rfl, hy⟩
  · unfold Hold
    have hp0 : 0 ≤ n.fmod 24 - 12 := by omega
    have hp1 : n.fmod 24 - 12 < 12 := by rw [Int.fmod_eq_emod_of_nonneg _ (by decide)]; omega
    have hq := sizes_at hp0 hp1
    have hq0 := hq.1
    have hq1 := hq.2
    clear hq
    have hz0 := ten_ne (PF.sizes.getD (n.fmod 24 - 12).toNat 0).toNat
    have hz1 := ten_log hq1
    have hp2 : n.fmod 24 - 12 < (PF.sizes.length : Int) := by rw [show PF.sizes.length = 12 by decide]; assumption
    refine con_use (sizes_con w mean mg mb) (by k_asm) (by k_asm) (by k_asm) (by k_asm) (by k_asm) (by first | exact rfl | assumption) (by ktr_room) (by ktr_units) ?_
    intro v new h' tk' hR F'
    refine retZ_use hR ?_
    intro a9 vs9 hB9 N'
    clear hR
    dsimp only [List.singleton_append] at N'
    have hd0 : 0 ≤ ((n.fdiv 24).fdiv 5).fmod (10 ^ (PF.sizes.getD (n.fmod 24 - 12).toNat 0).toNat) := by
      rw [Int.fmod_eq_emod_of_nonneg _ (Int.le_of_lt (Int.pow_pos (by decide)))]; exact Int.emod_nonneg _ hz0
    have hd1 : ((n.fdiv 24).fdiv 5).fmod (10 ^ (PF.sizes.getD (n.fmod 24 - 12).toNat 0).toNat) < 10 ^ (PF.sizes.getD (n.fmod 24 - 12).toNat 0).toNat := by
      rw [Int.fmod_eq_emod_of_nonneg _ (Int.le_of_lt (Int.pow_pos (by decide)))]; exact Int.emod_lt_of_pos _ (Int.pow_pos (by decide))
    have hw := drawn_ok hq0 hq1 hd0 hd1
    have hs9 := drawn_size hq1 hd0 hd1
    have ho9 := PH.octs_int_len hs9
    clear hd0 hd1
    k_steps
    unfold Hold
    rename Fr _ _ _ _ => F'
    rename News _ _ _ _ => N'
    rw [← PD.octs_int, ← cut_from1] at hw
    refine wpAny_mono (fig_tail w mean mg mb dp un gd cn cs a ccd cl outer base h₀ _ L _ m _ _ _ _ _ _ _ _ _ hw.1 hw.2 _ rfl _ rfl hd hu (by assumption) (by assumption) (by assumption) (by assumption) (in3 F' (by with_unfolding_all rfl) (by with_unfolding_all rfl) (by with_unfolding_all rfl)) N') (fun _ _ q => RetPost.use q ?_) (fun _ _ h => h.elim)
    intro v new m9 h9 tk9 hR F9 N9
    clear F' N'
    dsimp only
    revert N9; refine RetP.use hR ?_; intro y t hy N9
    k_steps
    exact end0 hret (by assumption) (by (first | (first | (with_reducible assumption) | (refine kst_newsOf (by with_reducible assumption) (fun p hp => ?_); simp only [List.mem_cons, List.mem_append, List.cons_append, List.nil_append, hp, or_true, true_or])) | (first | (assumption) | (apply news_tail; assumption) | (apply news_tail; apply news_tail; assumption) | (apply news_tail; apply news_tail; apply news_tail; assumption) | (apply news_tail; apply news_tail; apply news_tail; apply news_tail; assumption) | (apply news_tail; apply news_tail; apply news_tail; apply news_tail; apply news_tail; assumption)))) ⟨_, _, rfl, rfl, hy⟩
end
section
open _root_.PySem _root_.PySem.W _root_.PySem.Spec _root_.PySem.Calls _root_.PyProof.Rows
theorem told_CM : True := by
  k_with_none
  w_top off
  k_with "own omega" => (with_reducible first | exact om6 (by assumption) rfl | exact om0 (by assumption) | exact om2 (by assumption) rfl | exact om3 (by assumption) rfl | exact om4 (by assumption) rfl | exact Int.emod_nonneg _ (by decide) | exact Int.emod_lt_of_pos _ (by decide) | exact om8 (by assumption) rfl | exact om9 (by assumption) rfl)
  k_with "storeName" => ((k_here; k_dflt (first | ((with_reducible show wpAny _ _ (storeName _ _ (Value.int _ _)) _ _ _); refine storeG_int (by k_asm) (by k_asm) ?_ (by rfl) (by rfl); intro hq9 tq9 kq9 Fq9 Nq9) | ((with_reducible show wpAny _ _ (storeName _ _ (Value.bytes _ _)) _ _ _); refine storeG_bytes (by k_asm) (by k_asm) ?_ (by rfl) (by rfl); intro hq9 tq9 kq9 Fq9 Nq9) | (refine storeG_any (by k_asm) (by k_asm) ?_ (by rfl) (by rfl); intro hq9 kq9 Fq9 Nq9)); (try k_sweep)))
  k_with "Go" => (refine go_on (by assumption) ?_)
  k_with "own kby_size" => ((first | assumption | omega | (simp only [List.length_append, List.length_cons, List.length_nil] at *; omega)))
  k_with "subscriptTail" => ((k_here; (with_reducible show wpAny _ _ (subscriptTail _ (Expr.Slice _ _ none _) (Value.bytes (List.toArray _) _) (Value.ref _)) _ _ _); (with_reducible rename Fr _ _ _ _ => Fq9); (with_reducible rename News _ _ _ _ => Nq9); (refine BY.slice_L (s := ⟨_, _, _, _, _⟩) Fq9 Nq9 (by constructor) (by constructor) (by kby_size) ?_); intro _ _ _ Fq9 Nq9 hlenq9))
  k_with "binaryOp Add bytes bytes" => ((k_here; (with_reducible show wpAny _ _ (binaryOp Operator.Add (Value.bytes (List.toArray _) _) (Value.bytes (List.toArray _) _)) _ _ _); (refine BY.add_L (by kby_size) ?_); intro _ _))
  k_with "compareOp Eq bytes bytes" => ((k_here; (with_reducible show wpAny _ _ (compareOp CmpOp.Eq (Value.bytes (List.toArray _) _) (Value.bytes (List.toArray _) _)) _ _ _); (refine BY.eq_L ?_)))
  k_with "compareOp NotEq bytes bytes" => ((k_here; (with_reducible show wpAny _ _ (compareOp CmpOp.NotEq (Value.bytes (List.toArray _) _) (Value.bytes (List.toArray _) _)) _ _ _); (refine BY.ne_L ?_)))
  k_with "subscriptTail" => ((k_here; (with_reducible show wpAny _ _ (subscriptTail _ _ (Value.bytes (List.toArray _) _) (Value.int _ _)) _ _ _); (refine BY.item_L (by kby_size) (by first | decide | omega) (by first | omega | (simp only [List.length_append, List.length_cons, List.length_nil] at *; omega)) ?_); intro _ _))
  k_with "compareOp NotIn int bytes" => ((k_here; (with_reducible show wpAny _ _ (compareOp CmpOp.NotIn (Value.int _ _) (Value.bytes (List.toArray _) _)) _ _ _); (refine BY.notIn_B ?_)))
  k_with "call type:int" => ((k_here; (with_reducible show wpAny _ _ (call (Value.type "int") [Value.bytes (List.toArray _) _]) _ _ _); (refine IR.call_int_bytes (by assumption) (by assumption) ?_)))
  k_with "getMethod bytes" => ((k_here; first | (with_reducible refine BW.meth_rindex ?_) | (with_reducible refine BW.meth_rsplit ?_) | (with_reducible refine BW.meth_split ?_) | (with_reducible refine BW.meth_join ?_)))
  k_with "call builtin:bytes.rindex" => ((k_here; first
  | (refine BW.rindex_found (by with_reducible assumption) ?_; intro _ _)
  | (refine BW.rindex_not (by with_reducible assumption) (by first | exact rfl | assumption) ?_; intro _ _ _ _ hxq9)))
  k_with "call builtin:bytes.rsplit" => ((k_here; first
  | (refine BW.rsplit_two (by k_asm) (by k_asm) (by kby_size) (by with_reducible assumption) ?_; intro Dq9 t1q9 t2q9 hq9 kq9 Fq9 Nq9 l1q9; (try k_lt l1q9))
  | (refine BW.rsplit_one (by k_asm) (by k_asm) (by kby_size) (by with_reducible assumption) ?_; intro Dq9 t1q9 hq9 kq9 Fq9 Nq9 l1q9; (try k_lt l1q9))))
  k_with "call builtin:bytes.split" => ((k_here; (refine BW.split_L (by k_asm) (by k_asm) (by kby_size) ?_); intro Dq9 vsq9 hq9 kq9 hvsq9 Fq9 Nq9 l1q9; (try k_lt l1q9)))
  k_with "call builtin:bytes.join" => ((k_here; (refine BW.join_L (News.isList (by k_asm) (by k_mem)) (by with_reducible assumption) (by kby_size) ?_); intro _ _))
  k_with "assign Tuple" => ((k_here; (with_reducible show wpAny _ _ (assign (Expr.Tuple _ _ _) _ (Value.ref _)) _ _ _); (refine BW.unpack_one (News.isList (by k_asm) (by k_mem)) (by exact rfl) (by exact rfl) (by exact rfl) ?_); intro _ _ _ _ hxq9))
  k_with "subscriptTail" => ((k_here; (with_reducible show wpAny _ _ (subscriptTail _ _ (Value.ref _) (Value.int _ _)) _ _ _); (refine BW.item_BL (News.isList (by k_asm) (by k_mem)) (by with_reducible assumption) (by first | assumption | omega) (by first | assumption | omega) (by first | assumption | omega) ?_); intro _))
  k_with "noteFrame ref" => ((k_here; k_dflt ((with_reducible rename Heap.MadeExc _ _ _ _ _ => hxMq9); (refine look_made2 (Heap.MadeExc.of hxMq9) (by k_asm) (by k_asm) (by assumption) ?_); clear hxMq9; intro hq9 tq9 Gq9 Fq9 Rq9 alq9 Uq9; (try dsimp only at Rq9 Uq9 ⊢))))
  k_with "leaving ref" => ((k_here; k_dflt ((with_reducible rename KtsDicts _ _ => kdX); (with_reducible rename Heap.MadeExc _ _ _ _ _ => hxMq9); (refine leave_raise2 (by assumption) (Heap.MadeExc.of hxMq9) (by assumption) (by k_asm) ?_); intro hq9 tq9 Sq9 alq9 Uq9; (have Rq9 := RaisedS.toK Sq9); (try dsimp only at Sq9 Rq9 Uq9 ⊢))))
  k_with "noteFrame ref" => ((k_here; k_dflt ((rename RaisedS _ _ _ _ _ _ _ _ _ => rsX); (with_reducible rename Alone _ _ => alX); (with_reducible show wpAny _ _ (noteFrame _ _) (fun _ s₂ => wpAny _ _ (setFlight _ none) (fun _ s₃ => wpAny _ _ (handleBy _ _ [ExceptHandler.ExceptHandler _ (some _) [Stmt.Raise (some _) (some _) _] _]) _ _ s₃) _ s₂) _ _); (refine look_on2 rsX alX (by assumption) (by assumption) ?_); intro hq9 Rq9 alq9 Uq9; (try dsimp only at Rq9 Uq9 ⊢))))
  k_with "handleBy ref" => ((k_here; k_dflt ((with_reducible rename Alone _ _ => alX); (refine hit2 (by assumption) alX (by assumption) (by assumption) (by assumption) (by assumption) (by assumption) (by assumption) (by kts_test) PySem.F.excBase_Exception PySem.F.excRaise_ValueError (by k_is) (by k_exc) ?_ (fun _ _ hh => hh)); intro hq9 tkq9 e2q9 t2q9 Rq9 RKq9 Uq9; (try dsimp only at Rq9 RKq9 Uq9 ⊢))))
  k_with "getMethod str" => ((k_here; (with_reducible refine BE.meth_encode ?_)))
  k_with "binaryOp Mod str ref" => ((k_here; (with_reducible show wpAny _ _ (binaryOp Operator.Mod (Value.str _ _) (Value.ref _)) _ _ _); k_dflt ((refine BF.fmt_rule (by k_asm) (by k_mem) (by decide +kernel) (by first | exact PG.fd1 (by omega) | exact PG.fd2 (by omega)) PG.fd3 ?_); intro _ _)))
  k_with "call builtin:str.encode" => ((k_here; k_dflt ((refine BE.encode (BF.ascii_fmt _ _ (by decide +kernel)) (BF.size_fmt (by decide +kernel) (by first | exact PG.fd1 (by omega) | exact PG.fd2 (by omega)) PG.fd3) ?_); intro _ _)))
  k_with "call type:str" => ((k_here; k_dflt (refine P.str_of_int (BF.log_lt (by omega)) ?_)))
  k_with "call builtin:str.encode" => ((k_here; k_dflt ((refine BE.encode (BF.ascii_int _) (PH.size_int (by omega)) ?_); intro _ _)))
  k_with "call builtin:bytes.join" => ((k_here; k_dflt ((refine BW.join_L (News.isList (by k_asm) (by k_mem)) (bytesAre_cons (bytesAre_cons (bytesAre_cons bytesAre_nil))) (PH.join3 (by assumption) (Nat.le_trans (PH.octs_int_len (by omega)) (by decide)) (Nat.le_trans (PH.octs_fmt_len (by decide +kernel) (by first | exact PG.fd1 (by omega) | exact PG.fd2 (by omega)) PG.fd3) (by decide))) ?_); intro _ _)))
  k_with "subscriptTail" => ((k_here; (with_reducible show wpAny _ _ (subscriptTail _ (PySem.Expr.Slice _ _ none _) (Value.ref _) (Value.ref _)) _ _ _); k_dflt (first
  | (refine BS.slice_from (by k_asm) (by k_asm) (News.isList (by k_asm) (by k_mem)) (by with_reducible assumption) (by constructor) (by constructor) (by omega) (by (try simp only [List.length_drop, List.length_take]); omega) ?_)
  | (refine BS.slice_upto (by k_asm) (by k_asm) (News.isList (by k_asm) (by k_mem)) (by with_reducible assumption) (by constructor) (by constructor) (by omega) (by (try simp only [List.length_drop, List.length_take]); omega) ?_)
  | (refine BS.slice_less (by k_asm) (by k_asm) (News.isList (by k_asm) (by k_mem)) (by with_reducible assumption) (by constructor) (by constructor) (by (try simp only [List.length_drop, List.length_take]); omega) ?_)); intro Dq9 wsq9 hq9 hvsq9 Fq9 Nq9 l1q9; (try k_lt l1q9)))
  k_with "subscriptTail" => ((k_here; (with_reducible show wpAny _ _ (subscriptTail _ _ (Value.ref _) (Value.int (-1) _)) _ _ _); (refine BS.item_last (News.isList (by k_asm) (by k_mem)) (by with_reducible assumption) (by first | assumption | omega) (by first | assumption | omega) ?_); intro _))
  k_with "call builtin:len" => ((k_here; (with_reducible show wpAny _ _ (call (Value.builtin "len") [Value.ref _]) _ _ _); (refine BS.len_B (News.isList (by k_asm) (by k_mem)) (by with_reducible assumption) (by (try simp only [List.length_drop, List.length_take]); omega) ?_); intro _ _))
  k_with "call builtin:divmod" => ((k_here; (with_reducible show wpAny _ _ (call (Value.builtin _) [Value.int _ _, Value.int _ _]) _ _ _); (refine divmod_K (by k_asm) (by k_asm) (by first | assumption | omega) (by assumption) ?_); intro Dq9 hq9 _ _ _ Fq9 Nq9 l1q9; (try k_lt l1q9)))
  trivial
theorem told_CM_19 : True := by
  k_with "call ref" => ((k_here; (with_reducible show wpAny _ _ (call (Value.ref 82) _) _ _ _); refine hold ?_))
  trivial
theorem con_val {w : World} {mean : ExcName → Option Value} {mg mb : Str → Option Value} {D : Nat} {f : Addr} {vs : List Value} {x : Value} (C : Con w mean mg mb D f vs (fun v new => v = x ∧ new = []))
    {dp un : Nat} {gd : Option (List Code)} {cn : Str} {cs : Scope} {a : Addr} {ccd : Value} {cl : List (Str × Addr)} {outer : List Env} {A₀ : Around} {base h₀ : Heap} {L : Addr} {m : Str → Option Value} {news : Led} {s : Shared} {Q E : Value → Shared → Prop}
    (B : Below A₀ base outer h₀) (F : Fr h₀ L s.heap m) (X : (hd.heap_1 w.params).In h₀) (N : News h₀ L s.heap news) (T : Top hd.view_1 (looseW hd.view_1 [Str.ofString "format_timezone"]) mean mg mb h₀) (hk : cs.kind = .function)
    (hd' : dp + D < recursionLimit) (hu : un + 8 * D < cLine) (ret : ∀ h' tk', Fr h₀ L h' m → News h₀ L h' news → Q x { s with heap := h', toks := tk' }) :
    wpAny (model Challenge.rw_ai0005_01.row.prog w) (ktrTop dp un gd cn cs L a ccd cl outer) (call (.ref f) vs) Q E s :=
  con_use C B F X N T hk hd' hu (fun v new h' tk' hR F' N' => by obtain ⟨rfl, rfl⟩ := hR; exact ret h' tk' F' N')
theorem told_CM_20 : True := by
  k_with "eval Call" => ((k_here; (with_reducible show wpAny _ _ (eval (PySem.Expr.Call (PySem.Expr.Name (Str.ofString "_law_plain") _) _ _ _) _) _ _ _); refine Call_ ?_))
  k_with "call ref" => ((k_here; (with_reducible show wpAny _ _ (call (Value.ref 131) _) _ _ _); k_dflt ((refine con_val (plain_con _ _ _ _ _ _) (by k_asm) (by k_asm) (by k_asm) (by k_asm) (by k_asm) (by first | exact rfl | assumption) (by ktr_room) (by ktr_units) ?_); intro hq9 tkq9 Fq9 Nq9)))
  trivial
noncomputable def RetM (who : List UInt8) (when seconds : Int) (v : Value) (new : Led) : Prop := ∃ a w' k' s' b' t1 t2 t3, v = .ref a ∧ new = [(a, tupO [.bytes (w' : List UInt8).toArray t1, .int k' t2, .int s' t3, .bool b'])] ∧
  (w' = who ∨ w' ∈ PF.people) ∧ k'.natAbs ≤ when.natAbs + 10 ^ 20 ∧ s'.natAbs ≤ seconds.natAbs + 10 ^ 22 ∧ (b' = true → PF.plainF s' = true)
theorem people_at {i : Int} (h0 : 0 ≤ i) (h1 : i < (PF.people.length : Int)) : PF.people.getD i.toNat [] ∈ PF.people := by
  have hi : i.toNat < PF.people.length := atN h0 h1
  rw [List.getD_eq_getElem?_getD, List.getElem?_eq_getElem hi]
  exact List.getElem_mem hi
theorem in4 {g h : Heap} {L : Addr} {M : Str → Option Value} {x1 x2 x3 x4 : Str} {v1 v2 v3 v4 : Value} (F : Fr g L h M) (h1 : M x1 = some v1) (h2 : M x2 = some v2) (h3 : M x3 = some v3) (h4 : M x4 = some v4) :
    Fr g L h (fun y => if y = x1 then some v1 else if y = x2 then some v2 else if y = x3 then some v3 else if y = x4 then some v4 else M y) := by
  refine fr_ext F fun y => ?_
  by_cases q1 : y = x1
  · rw [if_pos q1, q1, h1]
  by_cases q2 : y = x2
  · rw [if_neg q1, if_pos q2, q2, h2]
  by_cases q3 : y = x3
  · rw [if_neg q1, if_neg q2, if_pos q3, q3, h3]
  by_cases q4 : y = x4
  · rw [if_neg q1, if_neg q2, if_neg q3, if_pos q4, q4, h4]
  rw [if_neg q1, if_neg q2, if_neg q3, if_neg q4]
noncomputable def RetM4 (who : List UInt8) (when seconds : Int) (b : Bool) (v : Value) (new : Led) : Prop := ∃ a t1 t2 t3, v = .ref a ∧ new = [(a, tupO [.bytes who.toArray t1, .int when t2, .int seconds t3, .bool b])]
@[elab_as_elim] theorem RetM4.use {who : List UInt8} {when seconds : Int} {b : Bool} {v : Value} {new : Led} {C : Value → Led → Prop} (q : RetM4 who when seconds b v new) (k : ∀ (a : Addr) (t1 t2 t3 : Tok), C (.ref a) [(a, tupO [.bytes who.toArray t1, .int when t2, .int seconds t3, .bool b])]) : C v new := by
  obtain ⟨a, t1, t2, t3, rfl, rfl⟩ := q
  exact k a t1 t2 t3
@[elab_as_elim] theorem RetM.use {who : List UInt8} {when seconds : Int} {v : Value} {new : Led} {C : Value → Led → Prop} (q : RetM who when seconds v new)
    (k : ∀ (a : Addr) (w' : List UInt8) (k' s' : Int) (b' : Bool) (t1 t2 t3 : Tok), (w' = who ∨ w' ∈ PF.people) → k'.natAbs ≤ when.natAbs + 10 ^ 20 → s'.natAbs ≤ seconds.natAbs + 10 ^ 22 → (b' = true → PF.plainF s' = true) → C (.ref a) [(a, tupO [.bytes w'.toArray t1, .int k' t2, .int s' t3, .bool b'])]) : C v new := by
  obtain ⟨a, w', k', s', b', t1, t2, t3, rfl, rfl, c1, c2, c3, c4⟩ := q
  exact k a w' k' s' b' t1 t2 t3 c1 c2 c3 c4
set_option maxHeartbeats 1000000 in
theorem moved_tail (w : World) (mean : ExcName → Option Value) (mg mb : Str → Option Value) (dp un : Nat) (gd : Option (List Code)) (cn : Str) (cs : Scope) (a : Addr) (ccd : Value) (cl : List (Str × Addr)) (outer : List Env) (base h₀ g : Heap) (L L' : Addr) (m m' : Str → Option Value) (news : Led) (s : Shared) (t0 t1 t2 : Tok) (who : List UInt8) (when seconds : Int) (b : Bool) :
    ∀ (st : List Stmt) (hst : st = (bodyAt w 208).drop 3) (sc : Scope) (hsc : sc = scopeAt w 208)
    (hdp : dp + 2 < recursionLimit) (hun : un + 8 * 2 < cLine)
    (FG : Fr h₀ L g m) (B : Below (ktrTop dp un gd cn cs L a ccd cl outer) base (envX cn cs L a ccd cl :: outer) g) (X : (hd.heap_1 w.params).In g) (T : Top hd.view_1 (looseW hd.view_1 [Str.ofString "format_timezone"]) mean mg mb g)
    (F : Fr g L' s.heap (fun z => if z = Str.ofString "who" then some (.bytes who.toArray t0) else if z = Str.ofString "when" then some (.int when t1) else if z = Str.ofString "seconds" then some (.int seconds t2) else if z = Str.ofString "minus" then some (.bool b) else m' z)) (N : News g L' s.heap news),
    wpAny (model Challenge.rw_ai0005_01.row.prog w) ((ktrTop dp un gd cn cs L a ccd cl outer).deeper (envOf (Str.ofString "_law_moved") sc L' 208 (.ref 207))) (execs st (envOf (Str.ofString "_law_moved") sc L' 208 (.ref 207)))
      (RetPost g L' s (RetM4 who when seconds (b && PF.plainF seconds)) news) (fun _ _ => False) s := by
  k_fill
  intro st hst sc hsc hdp hun FG B X T F N
  conv at hst => rhs; whnf
  conv at hsc => rhs; whnf
  subst hst hsc
  cases b
  · k_steps
    exact ret_post1 ⟨_, _, _, _, rfl, rfl⟩ (by assumption) (by assumption)
  · k_steps
    exact ret_post1 ⟨_, _, _, _, rfl, by rw [Bool.true_and]⟩ (by assumption) (by assumption)
theorem item_I {prog : Program} {w : World} {A : Around} {E : Value → Shared → Prop} {s : Shared} {value slice : PySem.Expr} {a : Addr} {vs : List Value} {l : List Int} {i : Int} {u : Tok} {Q : Value → Shared → Prop} (hl : s.heap.IsList a vs.toArray) (hv : IntsAre vs l) (h0 : 0 ≤ i) (h4 : i < 4) (hl4 : l.length = 4)
    (h : ∀ t, Q (.int (l.getD i.toNat 0) t) s)
    (hs : subscripted slice false (.ref a) (.int i u) = operate [.ref a, .int i u] (getItem (.ref a) (.int i u)) := by with_unfolding_all rfl) :
    wpAny (model prog w) A (subscriptTail value slice (.ref a) (.int i u)) Q E s := by
  have hlt : i.toNat < l.length := by rw [hl4]; exact atN h0 h4
  obtain ⟨t, e⟩ := hv.get i.toNat l[i.toNat] (by simp [hlt])
  refine tail_any hl.typeIs slot_list_getitem.lookup (wpAny_getItem_list hl h0 (by omega) (x := .int (l.getD i.toNat 0) t) ?_ (h t)) hs
  rw [List.getD_eq_getElem?_getD, List.getElem?_eq_getElem hlt]
  simpa using e
theorem told_CM_21 : True := by
  k_with "binaryOp Pow int int" => ((k_here; refine pow_int_small (by first | decide | omega) (by first | decide | omega) (by decide) ?_))
  k_with "subscriptTail" => ((k_here; (with_reducible show wpAny _ _ (subscriptTail _ _ (Value.ref _) (Value.int (Int.fmod _ 4) _)) _ _ _); (refine item_I (News.isList (by k_asm) (by k_mem)) (by repeat (first | exact .nil | apply IntsAre.cons)) (by with_reducible assumption) (by with_reducible assumption) (by rfl) ?_); intro _))
  k_with "execs cons" => ((k_here; (with_reducible show wpAny _ _ (execs (Stmt.Return _ _ :: _) _) _ _ _); refine hold ?_))
  trivial
theorem step_ok {r i : Int} (h0 : 0 ≤ i) (h1 : i < 4) : ([r.fmod 4001 - 2000, r.fmod (10 ^ Int.toNat 18), -r.fmod (10 ^ Int.toNat 18), r.fmod 4] : List Int).getD i.toNat 0 ≤ 10 ^ 18 ∧ -(10 ^ 18) ≤ ([r.fmod 4001 - 2000, r.fmod (10 ^ Int.toNat 18), -r.fmod (10 ^ Int.toNat 18), r.fmod 4] : List Int).getD i.toNat 0 := by
  have e : (10 : Int) ^ Int.toNat 18 = 1000000000000000000 := by decide
  rw [e]
  obtain ⟨j, rfl⟩ := Int.eq_ofNat_of_zero_le h0
  rw [Int.toNat_natCast]
  rw [Int.fmod_eq_emod_of_nonneg _ (by decide), Int.fmod_eq_emod_of_nonneg _ (by decide), Int.fmod_eq_emod_of_nonneg _ (by decide)]
  match j, h1 with
  | 0, _ => show _ ≤ _ ∧ _; simp only [List.getD_cons_zero]; (first | lia | omega)
  | 1, _ => simp only [List.getD_cons_succ, List.getD_cons_zero]; (first | lia | omega)
  | 2, _ => simp only [List.getD_cons_succ, List.getD_cons_zero]; (first | lia | omega)
  | 3, _ => simp only [List.getD_cons_succ, List.getD_cons_zero]; (first | lia | omega)
  | n + 4, h => exact absurd (Int.ofNat_lt.mp h) (Nat.not_lt.mpr (Nat.le_add_left 4 n))
theorem mv_b1 {st when : Int} (h : st ≤ 10 ^ 18 ∧ -(10 ^ 18) ≤ st) : ((2 : Int) ^ Int.toNat 63 - 2 + st).natAbs ≤ when.natAbs + 10 ^ 20 := by
  have e : (2 : Int) ^ Int.toNat 63 = 9223372036854775808 := by decide
  rw [e]
  exact Nat.le_trans (Int.natAbs_add_le _ _) (Nat.le_trans (Nat.add_le_add_left (nal (K := 10 ^ 18) h) _) (Nat.le_trans (by decide) (Nat.le_add_left _ _)))
theorem mv_b2 {st when : Int} (h : st ≤ 10 ^ 18 ∧ -(10 ^ 18) ≤ st) : (when + st).natAbs ≤ when.natAbs + 10 ^ 20 :=
  Nat.le_trans (Int.natAbs_add_le _ _) (Nat.add_le_add_left (Nat.le_trans (nal (K := 10 ^ 18) h) (by decide)) _)
theorem mv_b6 {st : Int} (h : st ≤ 10 ^ 18 ∧ -(10 ^ 18) ≤ st) (k : Nat) (hk : Nat.ble (10 ^ 18 * k) (10 ^ 22) = true) : (st * (k : Int)).natAbs ≤ 10 ^ 22 := by
  rw [Int.natAbs_mul]; exact Nat.le_trans (Nat.mul_le_mul_right k (nal (K := 10 ^ 18) h)) (Nat.le_of_ble_eq_true hk)
theorem mv_b3 {st s : Int} (h : st ≤ 10 ^ 18 ∧ -(10 ^ 18) ≤ st) : (st * 3600).natAbs ≤ s.natAbs + 10 ^ 22 :=
  Nat.le_trans (mv_b6 h 3600 rfl) (Nat.le_add_left _ _)
theorem mv_b4 {st s : Int} (h : st ≤ 10 ^ 18 ∧ -(10 ^ 18) ≤ st) : (s + st * 60).natAbs ≤ s.natAbs + 10 ^ 22 :=
  Nat.le_trans (Int.natAbs_add_le _ _) (Nat.add_le_add_left (mv_b6 h 60 rfl) _)
theorem mv_b5 {st when : Int} (h : st ≤ 10 ^ 18 ∧ -(10 ^ 18) ≤ st) : (when + st).natAbs ≤ when.natAbs + 10 ^ 22 :=
  Nat.le_trans (mv_b2 h) (Nat.add_le_add_left (by decide) _)
theorem RetM.mk {who w' : List UInt8} {when seconds k' s' : Int} {b' : Bool} {a : Addr} {t1 t2 t3 : Tok} (c1 : w' = who ∨ w' ∈ PF.people) (c2 : k'.natAbs ≤ when.natAbs + 10 ^ 20) (c3 : s'.natAbs ≤ seconds.natAbs + 10 ^ 22) (c4 : b' = true → PF.plainF s' = true) :
    RetM who when seconds (.ref a) [(a, tupO [.bytes w'.toArray t1, .int k' t2, .int s' t3, .bool b'])] := ⟨a, w', k', s', b', t1, t2, t3, rfl, rfl, c1, c2, c3, c4⟩
set_option maxHeartbeats 1000000 in
theorem moved_con (w : World) (mean : ExcName → Option Value) (mg mb : Str → Option Value) (kind rest when seconds : Int) (who : List UInt8) (minus : Bool) (t1 t2 t3 t4 t5 : Tok) : Con w mean mg mb 2 208 [.int kind t1, .int rest t2, .bytes who.toArray t3, .int when t4, .int seconds t5, .bool minus] (RetM who when seconds) := by
  unfold Con
  k_fill
  intro dp un gd cn cs a ccd cl outer A₀ base h₀ L m news s Q E B F X N T hk hd hu hret
  have hp0 : 0 ≤ rest.fmod 4 := by rw [Int.fmod_eq_emod_of_nonneg _ (by decide)]; omega
  have hp1 : rest.fmod 4 < 4 := by rw [Int.fmod_eq_emod_of_nonneg _ (by decide)]; omega
  have hq0 : 0 ≤ (rest.fdiv 4).fmod 12 := by rw [Int.fmod_eq_emod_of_nonneg _ (by decide)]; omega
  have hq1 : (rest.fdiv 4).fmod 12 < (PF.people.length : Int) := by rw [Int.fmod_eq_emod_of_nonneg _ (by decide), show PF.people.length = 12 by decide]; omega
  refine wpAny_call ?_
  w_strict (k_dflt cell_enter; k_steps)
  have hst := step_ok (r := rest.fdiv 4) hp0 hp1
  · have hst := step_ok (r := rest.fdiv 4) hp0 hp1
    clear hq0 hq1
    unfold Hold
    rename Fr _ _ _ _ => F'
    rename News _ _ _ _ => N'
    refine wpAny_mono (moved_tail w mean mg mb dp un gd cn cs a ccd cl outer base h₀ _ L _ m _ _ _ _ _ _ _ _ _ _ _ rfl _ rfl hd hu (by assumption) (by assumption) (by assumption) (by assumption) (in4 F' (by with_unfolding_all rfl) (by with_unfolding_all rfl) (by with_unfolding_all rfl) (by with_unfolding_all rfl)) N') (fun _ _ q => RetPost.use q ?_) (fun _ _ h => h.elim)
    (intro v new m9 h9 tk9 hR F9; refine RetM4.use hR ?_; intro a9 t7 t8 t9 N9)
    clear F' N'
    dsimp only
    k_steps
    refine end1 hret (by assumption) (by first | exact news_keep (by assumption) (fun p hp => by first | exact hp | exact .tail _ hp | exact .tail _ (.tail _ hp) | exact .tail _ (.tail _ (.tail _ hp)) | exact .tail _ (.tail _ (.tail _ (.tail _ hp))) | exact .tail _ (.tail _ (.tail _ (.tail _ (.tail _ hp)))) | exact .tail _ (.tail _ (.tail _ (.tail _ (.tail _ (.tail _ hp)))))) | exact news_sub (by assumption) (fun p hp => by simp only [List.mem_cons, List.cons_append, List.nil_append] at hp ⊢; rcases hp with h | h; exact .inl h; simp [h])) (RetM.mk (.inl rfl) (mv_b1 hst) (Nat.le_add_right _ _) (fun q => (Bool.and_eq_true_iff.mp q).2))
  · have hst := step_ok (r := rest.fdiv 4) hp0 hp1
    clear hq0 hq1
    unfold Hold
    rename Fr _ _ _ _ => F'
    rename News _ _ _ _ => N'
    refine wpAny_mono (moved_tail w mean mg mb dp un gd cn cs a ccd cl outer base h₀ _ L _ m _ _ _ _ _ _ _ _ _ _ _ rfl _ rfl hd hu (by assumption) (by assumption) (by assumption) (by assumption) (in4 F' (by with_unfolding_all rfl) (by with_unfolding_all rfl) (by with_unfolding_all rfl) (by with_unfolding_all rfl)) N') (fun _ _ q => RetPost.use q ?_) (fun _ _ h => h.elim)
    (intro v new m9 h9 tk9 hR F9; refine RetM4.use hR ?_; intro a9 t7 t8 t9 N9)
    clear F' N'
    dsimp only
    k_steps
    refine end1 hret (by assumption) (by first | exact news_keep (by assumption) (fun p hp => by first | exact hp | exact .tail _ hp | exact .tail _ (.tail _ hp) | exact .tail _ (.tail _ (.tail _ hp)) | exact .tail _ (.tail _ (.tail _ (.tail _ hp))) | exact .tail _ (.tail _ (.tail _ (.tail _ (.tail _ hp)))) | exact .tail _ (.tail _ (.tail _ (.tail _ (.tail _ (.tail _ hp)))))) | exact news_sub (by assumption) (fun p hp => by simp only [List.mem_cons, List.cons_append, List.nil_append] at hp ⊢; rcases hp with h | h; exact .inl h; simp [h])) (RetM.mk (.inl rfl) (mv_b2 hst) (Nat.le_add_right _ _) (fun q => (Bool.and_eq_true_iff.mp q).2))
  · have hst := step_ok (r := rest.fdiv 4) hp0 hp1
    clear hq0 hq1
    unfold Hold
    rename Fr _ _ _ _ => F'
    rename News _ _ _ _ => N'
    refine wpAny_mono (moved_tail w mean mg mb dp un gd cn cs a ccd cl outer base h₀ _ L _ m _ _ _ _ _ _ _ _ _ _ _ rfl _ rfl hd hu (by assumption) (by assumption) (by assumption) (by assumption) (in4 F' (by with_unfolding_all rfl) (by with_unfolding_all rfl) (by with_unfolding_all rfl) (by with_unfolding_all rfl)) N') (fun _ _ q => RetPost.use q ?_) (fun _ _ h => h.elim)
    (intro v new m9 h9 tk9 hR F9; refine RetM4.use hR ?_; intro a9 t7 t8 t9 N9)
    clear F' N'
    dsimp only
    k_steps
    refine end1 hret (by assumption) (by first | exact news_keep (by assumption) (fun p hp => by first | exact hp | exact .tail _ hp | exact .tail _ (.tail _ hp) | exact .tail _ (.tail _ (.tail _ hp)) | exact .tail _ (.tail _ (.tail _ (.tail _ hp))) | exact .tail _ (.tail _ (.tail _ (.tail _ (.tail _ hp)))) | exact .tail _ (.tail _ (.tail _ (.tail _ (.tail _ (.tail _ hp)))))) | exact news_sub (by assumption) (fun p hp => by simp only [List.mem_cons, List.cons_append, List.nil_append] at hp ⊢; rcases hp with h | h; exact .inl h; simp [h])) (RetM.mk (.inl rfl) (Nat.le_add_right _ _) (mv_b3 hst) (fun q => (Bool.and_eq_true_iff.mp q).2))
  · have hst := step_ok (r := rest.fdiv 4) hp0 hp1
    clear hq0 hq1
    unfold Hold
    rename Fr _ _ _ _ => F'
    rename News _ _ _ _ => N'
    refine wpAny_mono (moved_tail w mean mg mb dp un gd cn cs a ccd cl outer base h₀ _ L _ m _ _ _ _ _ _ _ _ _ _ _ rfl _ rfl hd hu (by assumption) (by assumption) (by assumption) (by assumption) (in4 F' (by with_unfolding_all rfl) (by with_unfolding_all rfl) (by with_unfolding_all rfl) (by with_unfolding_all rfl)) N') (fun _ _ q => RetPost.use q ?_) (fun _ _ h => h.elim)
    (intro v new m9 h9 tk9 hR F9; refine RetM4.use hR ?_; intro a9 t7 t8 t9 N9)
    clear F' N'
    dsimp only
    k_steps
    refine end1 hret (by assumption) (by first | exact news_keep (by assumption) (fun p hp => by first | exact hp | exact .tail _ hp | exact .tail _ (.tail _ hp) | exact .tail _ (.tail _ (.tail _ hp)) | exact .tail _ (.tail _ (.tail _ (.tail _ hp))) | exact .tail _ (.tail _ (.tail _ (.tail _ (.tail _ hp)))) | exact .tail _ (.tail _ (.tail _ (.tail _ (.tail _ (.tail _ hp)))))) | exact news_sub (by assumption) (fun p hp => by simp only [List.mem_cons, List.cons_append, List.nil_append] at hp ⊢; rcases hp with h | h; exact .inl h; simp [h])) (RetM.mk (.inl rfl) (Nat.le_add_right _ _) (mv_b4 hst) (fun q => (Bool.and_eq_true_iff.mp q).2))
  · have hst := step_ok (r := rest.fdiv 4) hp0 hp1
    clear hq0 hq1
    unfold Hold
    rename Fr _ _ _ _ => F'
    rename News _ _ _ _ => N'
    refine wpAny_mono (moved_tail w mean mg mb dp un gd cn cs a ccd cl outer base h₀ _ L _ m _ _ _ _ _ _ _ _ _ _ _ rfl _ rfl hd hu (by assumption) (by assumption) (by assumption) (by assumption) (in4 F' (by with_unfolding_all rfl) (by with_unfolding_all rfl) (by with_unfolding_all rfl) (by with_unfolding_all rfl)) N') (fun _ _ q => RetPost.use q ?_) (fun _ _ h => h.elim)
    (intro v new m9 h9 tk9 hR F9; refine RetM4.use hR ?_; intro a9 t7 t8 t9 N9)
    clear F' N'
    dsimp only
    k_steps
    refine end1 hret (by assumption) (by first | exact news_keep (by assumption) (fun p hp => by first | exact hp | exact .tail _ hp | exact .tail _ (.tail _ hp) | exact .tail _ (.tail _ (.tail _ hp)) | exact .tail _ (.tail _ (.tail _ (.tail _ hp))) | exact .tail _ (.tail _ (.tail _ (.tail _ (.tail _ hp)))) | exact .tail _ (.tail _ (.tail _ (.tail _ (.tail _ (.tail _ hp)))))) | exact news_sub (by assumption) (fun p hp => by simp only [List.mem_cons, List.cons_append, List.nil_append] at hp ⊢; rcases hp with h | h; exact .inl h; simp [h])) (RetM.mk (.inl rfl) (Nat.le_add_right _ _) (mv_b5 hst) (fun q => (Bool.and_eq_true_iff.mp q).2))
  · unfold Hold
    have hm := people_at hq0 hq1
    have hq2 : (rest.fdiv 4).fmod 12 < 12 := by rw [show PF.people.length = 12 by decide] at hq1; exact hq1
    refine con_use (people_con w mean mg mb) (by k_asm) (by k_asm) (by k_asm) (by k_asm) (by k_asm) (by first | exact rfl | assumption) (by ktr_room) (by ktr_units) ?_
    intro v new h' tk' hR F'
    refine retL_use hR ?_
    intro a9 vs9 hB9 N'
    clear hR
    dsimp only [List.singleton_append] at N'
    k_steps
    unfold Hold
    rename Fr _ _ _ _ => F'
    rename News _ _ _ _ => N'
    refine wpAny_mono (moved_tail w mean mg mb dp un gd cn cs a ccd cl outer base h₀ _ L _ m _ _ _ _ _ _ _ _ _ _ _ rfl _ rfl hd hu (by assumption) (by assumption) (by assumption) (by assumption) (in4 F' (by with_unfolding_all rfl) (by with_unfolding_all rfl) (by with_unfolding_all rfl) (by with_unfolding_all rfl)) N') (fun _ _ q => RetPost.use q ?_) (fun _ _ h => h.elim)
    (intro v new m9 h9 tk9 hR F9; refine RetM4.use hR ?_; intro a9 t7 t8 t9 N9)
    clear F' N'
    dsimp only
    k_steps
    refine end1 hret (by assumption) (by first | exact news_keep (by assumption) (fun p hp => by first | exact hp | exact .tail _ hp | exact .tail _ (.tail _ hp) | exact .tail _ (.tail _ (.tail _ hp)) | exact .tail _ (.tail _ (.tail _ (.tail _ hp))) | exact .tail _ (.tail _ (.tail _ (.tail _ (.tail _ hp)))) | exact .tail _ (.tail _ (.tail _ (.tail _ (.tail _ (.tail _ hp)))))) | exact news_sub (by assumption) (fun p hp => by simp only [List.mem_cons, List.cons_append, List.nil_append] at hp ⊢; rcases hp with h | h; exact .inl h; simp [h])) (RetM.mk (.inr hm) (Nat.le_add_right _ _) (by rw [Int.natAbs_neg]; exact Nat.le_add_right _ _) (fun q => (Bool.and_eq_true_iff.mp q).2))
end
section
open _root_.PySem _root_.PySem.W _root_.PySem.Spec _root_.PySem.Calls _root_.PyProof.Rows
theorem told_CZ : True := by
  k_with_none
  w_top off
  k_with "own omega" => (with_reducible first | exact om6 (by assumption) rfl | exact om0 (by assumption) | exact om2 (by assumption) rfl | exact om3 (by assumption) rfl | exact om4 (by assumption) rfl | exact Int.emod_nonneg _ (by decide) | exact Int.emod_lt_of_pos _ (by decide) | exact om8 (by assumption) rfl | exact om9 (by assumption) rfl)
  k_with "storeName" => ((k_here; k_dflt (first | ((with_reducible show wpAny _ _ (storeName _ _ (Value.int _ _)) _ _ _); refine storeG_int (by k_asm) (by k_asm) ?_ (by rfl) (by rfl); intro hq9 tq9 kq9 Fq9 Nq9) | ((with_reducible show wpAny _ _ (storeName _ _ (Value.bytes _ _)) _ _ _); refine storeG_bytes (by k_asm) (by k_asm) ?_ (by rfl) (by rfl); intro hq9 tq9 kq9 Fq9 Nq9) | (refine storeG_any (by k_asm) (by k_asm) ?_ (by rfl) (by rfl); intro hq9 kq9 Fq9 Nq9)); (try k_sweep)))
  k_with "Go" => (refine go_on (by assumption) ?_)
  k_with "own kby_size" => ((first | assumption | omega | (simp only [List.length_append, List.length_cons, List.length_nil] at *; omega)))
  k_with "subscriptTail" => ((k_here; (with_reducible show wpAny _ _ (subscriptTail _ (Expr.Slice _ _ none _) (Value.bytes (List.toArray _) _) (Value.ref _)) _ _ _); (with_reducible rename Fr _ _ _ _ => Fq9); (with_reducible rename News _ _ _ _ => Nq9); (refine BY.slice_L (s := ⟨_, _, _, _, _⟩) Fq9 Nq9 (by constructor) (by constructor) (by kby_size) ?_); intro _ _ _ Fq9 Nq9 hlenq9))
  k_with "binaryOp Add bytes bytes" => ((k_here; (with_reducible show wpAny _ _ (binaryOp Operator.Add (Value.bytes (List.toArray _) _) (Value.bytes (List.toArray _) _)) _ _ _); (refine BY.add_L (by kby_size) ?_); intro _ _))
  k_with "compareOp Eq bytes bytes" => ((k_here; (with_reducible show wpAny _ _ (compareOp CmpOp.Eq (Value.bytes (List.toArray _) _) (Value.bytes (List.toArray _) _)) _ _ _); (refine BY.eq_L ?_)))
  k_with "compareOp NotEq bytes bytes" => ((k_here; (with_reducible show wpAny _ _ (compareOp CmpOp.NotEq (Value.bytes (List.toArray _) _) (Value.bytes (List.toArray _) _)) _ _ _); (refine BY.ne_L ?_)))
  k_with "subscriptTail" => ((k_here; (with_reducible show wpAny _ _ (subscriptTail _ _ (Value.bytes (List.toArray _) _) (Value.int _ _)) _ _ _); (refine BY.item_L (by kby_size) (by first | decide | omega) (by first | omega | (simp only [List.length_append, List.length_cons, List.length_nil] at *; omega)) ?_); intro _ _))
  k_with "compareOp NotIn int bytes" => ((k_here; (with_reducible show wpAny _ _ (compareOp CmpOp.NotIn (Value.int _ _) (Value.bytes (List.toArray _) _)) _ _ _); (refine BY.notIn_B ?_)))
  k_with "call type:int" => ((k_here; (with_reducible show wpAny _ _ (call (Value.type "int") [Value.bytes (List.toArray _) _]) _ _ _); (refine IR.call_int_bytes (by assumption) (by assumption) ?_)))
  k_with "getMethod bytes" => ((k_here; first | (with_reducible refine BW.meth_rindex ?_) | (with_reducible refine BW.meth_rsplit ?_) | (with_reducible refine BW.meth_split ?_) | (with_reducible refine BW.meth_join ?_)))
  k_with "call builtin:bytes.rindex" => ((k_here; first
  | (refine BW.rindex_found (by with_reducible assumption) ?_; intro _ _)
  | (refine BW.rindex_not (by with_reducible assumption) (by first | exact rfl | assumption) ?_; intro _ _ _ _ hxq9)))
  k_with "call builtin:bytes.rsplit" => ((k_here; first
  | (refine BW.rsplit_two (by k_asm) (by k_asm) (by kby_size) (by with_reducible assumption) ?_; intro Dq9 t1q9 t2q9 hq9 kq9 Fq9 Nq9 l1q9; (try k_lt l1q9))
  | (refine BW.rsplit_one (by k_asm) (by k_asm) (by kby_size) (by with_reducible assumption) ?_; intro Dq9 t1q9 hq9 kq9 Fq9 Nq9 l1q9; (try k_lt l1q9))))
  k_with "call builtin:bytes.split" => ((k_here; (refine BW.split_L (by k_asm) (by k_asm) (by kby_size) ?_); intro Dq9 vsq9 hq9 kq9 hvsq9 Fq9 Nq9 l1q9; (try k_lt l1q9)))
  k_with "call builtin:bytes.join" => ((k_here; (refine BW.join_L (News.isList (by k_asm) (by k_mem)) (by with_reducible assumption) (by kby_size) ?_); intro _ _))
  k_with "assign Tuple" => ((k_here; (with_reducible show wpAny _ _ (assign (Expr.Tuple _ _ _) _ (Value.ref _)) _ _ _); (refine BW.unpack_one (News.isList (by k_asm) (by k_mem)) (by exact rfl) (by exact rfl) (by exact rfl) ?_); intro _ _ _ _ hxq9))
  k_with "subscriptTail" => ((k_here; (with_reducible show wpAny _ _ (subscriptTail _ _ (Value.ref _) (Value.int _ _)) _ _ _); (refine BW.item_BL (News.isList (by k_asm) (by k_mem)) (by with_reducible assumption) (by first | assumption | omega) (by first | assumption | omega) (by first | assumption | omega) ?_); intro _))
  k_with "noteFrame ref" => ((k_here; k_dflt ((with_reducible rename Heap.MadeExc _ _ _ _ _ => hxMq9); (refine look_made2 (Heap.MadeExc.of hxMq9) (by k_asm) (by k_asm) (by assumption) ?_); clear hxMq9; intro hq9 tq9 Gq9 Fq9 Rq9 alq9 Uq9; (try dsimp only at Rq9 Uq9 ⊢))))
  k_with "leaving ref" => ((k_here; k_dflt ((with_reducible rename KtsDicts _ _ => kdX); (with_reducible rename Heap.MadeExc _ _ _ _ _ => hxMq9); (refine leave_raise2 (by assumption) (Heap.MadeExc.of hxMq9) (by assumption) (by k_asm) ?_); intro hq9 tq9 Sq9 alq9 Uq9; (have Rq9 := RaisedS.toK Sq9); (try dsimp only at Sq9 Rq9 Uq9 ⊢))))
  k_with "noteFrame ref" => ((k_here; k_dflt ((rename RaisedS _ _ _ _ _ _ _ _ _ => rsX); (with_reducible rename Alone _ _ => alX); (with_reducible show wpAny _ _ (noteFrame _ _) (fun _ s₂ => wpAny _ _ (setFlight _ none) (fun _ s₃ => wpAny _ _ (handleBy _ _ [ExceptHandler.ExceptHandler _ (some _) [Stmt.Raise (some _) (some _) _] _]) _ _ s₃) _ s₂) _ _); (refine look_on2 rsX alX (by assumption) (by assumption) ?_); intro hq9 Rq9 alq9 Uq9; (try dsimp only at Rq9 Uq9 ⊢))))
  k_with "handleBy ref" => ((k_here; k_dflt ((with_reducible rename Alone _ _ => alX); (refine hit2 (by assumption) alX (by assumption) (by assumption) (by assumption) (by assumption) (by assumption) (by assumption) (by kts_test) PySem.F.excBase_Exception PySem.F.excRaise_ValueError (by k_is) (by k_exc) ?_ (fun _ _ hh => hh)); intro hq9 tkq9 e2q9 t2q9 Rq9 RKq9 Uq9; (try dsimp only at Rq9 RKq9 Uq9 ⊢))))
  k_with "getMethod str" => ((k_here; (with_reducible refine BE.meth_encode ?_)))
  k_with "binaryOp Mod str ref" => ((k_here; (with_reducible show wpAny _ _ (binaryOp Operator.Mod (Value.str _ _) (Value.ref _)) _ _ _); k_dflt ((refine BF.fmt_rule (by k_asm) (by k_mem) (by decide +kernel) (by first | exact PG.fd1 (by omega) | exact PG.fd2 (by omega)) PG.fd3 ?_); intro _ _)))
  k_with "call builtin:str.encode" => ((k_here; k_dflt ((refine BE.encode (BF.ascii_fmt _ _ (by decide +kernel)) (BF.size_fmt (by decide +kernel) (by first | exact PG.fd1 (by omega) | exact PG.fd2 (by omega)) PG.fd3) ?_); intro _ _)))
  k_with "call type:str" => ((k_here; k_dflt (refine P.str_of_int (BF.log_lt (by omega)) ?_)))
  k_with "call builtin:str.encode" => ((k_here; k_dflt ((refine BE.encode (BF.ascii_int _) (PH.size_int (by omega)) ?_); intro _ _)))
  k_with "call builtin:bytes.join" => ((k_here; k_dflt ((refine BW.join_L (News.isList (by k_asm) (by k_mem)) (bytesAre_cons (bytesAre_cons (bytesAre_cons bytesAre_nil))) (PH.join3 (by assumption) (Nat.le_trans (PH.octs_int_len (by omega)) (by decide)) (Nat.le_trans (PH.octs_fmt_len (by decide +kernel) (by first | exact PG.fd1 (by omega) | exact PG.fd2 (by omega)) PG.fd3) (by decide))) ?_); intro _ _)))
  k_with "subscriptTail" => ((k_here; (with_reducible show wpAny _ _ (subscriptTail _ (PySem.Expr.Slice _ _ none _) (Value.ref _) (Value.ref _)) _ _ _); k_dflt (first
  | (refine BS.slice_from (by k_asm) (by k_asm) (News.isList (by k_asm) (by k_mem)) (by with_reducible assumption) (by constructor) (by constructor) (by omega) (by (try simp only [List.length_drop, List.length_take]); omega) ?_)
  | (refine BS.slice_upto (by k_asm) (by k_asm) (News.isList (by k_asm) (by k_mem)) (by with_reducible assumption) (by constructor) (by constructor) (by omega) (by (try simp only [List.length_drop, List.length_take]); omega) ?_)
  | (refine BS.slice_less (by k_asm) (by k_asm) (News.isList (by k_asm) (by k_mem)) (by with_reducible assumption) (by constructor) (by constructor) (by (try simp only [List.length_drop, List.length_take]); omega) ?_)); intro Dq9 wsq9 hq9 hvsq9 Fq9 Nq9 l1q9; (try k_lt l1q9)))
  k_with "subscriptTail" => ((k_here; (with_reducible show wpAny _ _ (subscriptTail _ _ (Value.ref _) (Value.int (-1) _)) _ _ _); (refine BS.item_last (News.isList (by k_asm) (by k_mem)) (by with_reducible assumption) (by first | assumption | omega) (by first | assumption | omega) ?_); intro _))
  k_with "call builtin:len" => ((k_here; (with_reducible show wpAny _ _ (call (Value.builtin "len") [Value.ref _]) _ _ _); (refine BS.len_B (News.isList (by k_asm) (by k_mem)) (by with_reducible assumption) (by (try simp only [List.length_drop, List.length_take]); omega) ?_); intro _ _))
  k_with "call builtin:divmod" => ((k_here; (with_reducible show wpAny _ _ (call (Value.builtin _) [Value.int _ _, Value.int _ _]) _ _ _); (refine divmod_K (by k_asm) (by k_asm) (by first | assumption | omega) (by assumption) ?_); intro Dq9 hq9 _ _ _ Fq9 Nq9 l1q9; (try k_lt l1q9)))
  trivial
theorem told_CZ_22 : True := by
  k_with "call ref" => ((k_here; (with_reducible show wpAny _ _ (call (Value.ref 89) _) _ _ _); refine hold ?_))
  k_with "call ref" => ((k_here; (with_reducible show wpAny _ _ (call (Value.ref 110) _) _ _ _); refine hold ?_))
  trivial
noncomputable def ClockOk (x : List UInt8) : Prop := ∃ s ∈ PF.signs, ∃ y, FigOk y ∧ x = s ++ y
noncomputable def ZoneOk (x : List UInt8) : Prop := x ≠ [] ∧ (x = [43] ∨ ClockOk x)
theorem signs_ok : ∀ y ∈ PF.signs, y.length ≤ 3 := by decide
theorem signs_at {i : Int} (h0 : 0 ≤ i) (h1 : i < 8) : PF.signs.getD i.toNat [] ∈ PF.signs := by
  have hl : PF.signs.length = 8 := by decide
  have hi : i.toNat < PF.signs.length := by (first | lia | omega)
  rw [List.getD_eq_getElem?_getD, List.getElem?_eq_getElem hi]
  exact List.getElem_mem hi
set_option maxHeartbeats 1000000 in
theorem zlaid_con (w : World) (mean : ExcName → Option Value) (mg mb : Str → Option Value) (n : Int) (tn : Tok) : Con w mean mg mb 3 117 [.int n tn] (RetP ZoneOk) := by
  unfold Con
  k_fill
  intro dp un gd cn cs a ccd cl outer A₀ base h₀ L m news s Q E B F X N T hk hd hu hret
  have hp0 : 0 ≤ n.fmod 8 := by rw [Int.fmod_eq_emod_of_nonneg _ (by decide)]; omega
  have hp2 : n.fmod 8 < 8 := by rw [Int.fmod_eq_emod_of_nonneg _ (by decide)]; omega
  have hp1 : n.fmod 8 < (PF.signs.length : Int) := by rw [show PF.signs.length = 8 by decide]; assumption
  have hm := signs_at hp0 hp2
  have hs3 := signs_ok _ hm
  refine wpAny_call ?_
  w_strict (k_dflt cell_enter; k_steps)
  unfold Hold
  refine con_use (signs_con w mean mg mb) (by k_asm) (by k_asm) (by k_asm) (by k_asm) (by k_asm) (by first | exact rfl | assumption) (by ktr_room) (by ktr_units) ?_
  intro v new h' tk' hR F'
  refine retL_use hR ?_
  intro a9 vs9 hB9 N'
  clear hR
  dsimp only [List.singleton_append] at N'
  k_steps
  unfold Hold
  refine con_use (figures_con w mean mg mb _ _) (by k_asm) (by k_asm) (by k_asm) (by k_asm) (by k_asm) (by first | exact rfl | assumption) (by ktr_room) (by ktr_units) ?_
  intro v new h' tk' hR F'
  refine RetP.use hR ?_
  intro y t hy N'
  clear hR
  dsimp only [List.nil_append] at N'
  have hy21 := hy.1
  k_steps
  · exact end0 hret (by assumption) (by (first | (first | (with_reducible assumption) | (refine kst_newsOf (by with_reducible assumption) (fun p hp => ?_); simp only [List.mem_cons, List.mem_append, List.cons_append, List.nil_append, hp, or_true, true_or])) | (first | (assumption) | (apply news_tail; assumption) | (apply news_tail; apply news_tail; assumption) | (apply news_tail; apply news_tail; apply news_tail; assumption) | (apply news_tail; apply news_tail; apply news_tail; apply news_tail; assumption) | (apply news_tail; apply news_tail; apply news_tail; apply news_tail; apply news_tail; assumption)))) ⟨_, _, rfl, rfl, by simp, .inl rfl⟩
  · exact end0 hret (by assumption) (by (first | (first | (with_reducible assumption) | (refine kst_newsOf (by with_reducible assumption) (fun p hp => ?_); simp only [List.mem_cons, List.mem_append, List.cons_append, List.nil_append, hp, or_true, true_or])) | (first | (assumption) | (apply news_tail; assumption) | (apply news_tail; apply news_tail; assumption) | (apply news_tail; apply news_tail; apply news_tail; assumption) | (apply news_tail; apply news_tail; apply news_tail; apply news_tail; assumption) | (apply news_tail; apply news_tail; apply news_tail; apply news_tail; apply news_tail; assumption)))) ⟨_, _, rfl, rfl, (by first | assumption | exact of_decide_eq_false (by assumption)), .inr ⟨_, hm, _, hy, rfl⟩⟩
set_option maxHeartbeats 1000000 in
theorem claid_con (w : World) (mean : ExcName → Option Value) (mg mb : Str → Option Value) (n : Int) (tn : Tok) : Con w mean mg mb 3 124 [.int n tn] (RetP ClockOk) := by
  unfold Con
  k_fill
  intro dp un gd cn cs a ccd cl outer A₀ base h₀ L m news s Q E B F X N T hk hd hu hret
  have hp0 : 0 ≤ n.fmod 12 := by rw [Int.fmod_eq_emod_of_nonneg _ (by decide)]; omega
  refine wpAny_call ?_
  w_strict (k_dflt cell_enter; k_steps)
  · unfold Hold
    have hp1 : n.fmod 12 < (PF.signs.length : Int) := by rw [show PF.signs.length = 8 by decide]; assumption
    have hm := signs_at hp0 (by assumption)
    have hs3 := signs_ok _ hm
    refine con_use (signs_con w mean mg mb) (by k_asm) (by k_asm) (by k_asm) (by k_asm) (by k_asm) (by first | exact rfl | assumption) (by ktr_room) (by ktr_units) ?_
    intro v new h' tk' hR F'
    refine retL_use hR ?_
    intro a9 vs9 hB9 N'
    clear hR
    dsimp only [List.singleton_append] at N'
    k_steps
    unfold Hold
    refine con_use (figures_con w mean mg mb _ _) (by k_asm) (by k_asm) (by k_asm) (by k_asm) (by k_asm) (by first | exact rfl | assumption) (by ktr_room) (by ktr_units) ?_
    intro v new h' tk' hR F'
    refine RetP.use hR ?_
    intro y t hy N'
    clear hR
    dsimp only [List.nil_append] at N'
    have hy21 := hy.1
    k_steps
    exact end0 hret (by assumption) (by (first | (first | (with_reducible assumption) | (refine kst_newsOf (by with_reducible assumption) (fun p hp => ?_); simp only [List.mem_cons, List.mem_append, List.cons_append, List.nil_append, hp, or_true, true_or])) | (first | (assumption) | (apply news_tail; assumption) | (apply news_tail; apply news_tail; assumption) | (apply news_tail; apply news_tail; apply news_tail; assumption) | (apply news_tail; apply news_tail; apply news_tail; apply news_tail; assumption) | (apply news_tail; apply news_tail; apply news_tail; apply news_tail; apply news_tail; assumption)))) ⟨_, _, rfl, rfl, _, hm, _, hy, rfl⟩
  · unfold Hold
    refine con_use (figures_con w mean mg mb _ _) (by k_asm) (by k_asm) (by k_asm) (by k_asm) (by k_asm) (by first | exact rfl | assumption) (by ktr_room) (by ktr_units) ?_
    intro v new h' tk' hR F'
    refine RetP.use hR ?_
    intro y t hy N'
    clear hR
    dsimp only [List.nil_append] at N'
    have hy21 := hy.1
    k_steps
    exact end0 hret (by assumption) (by (first | (first | (with_reducible assumption) | (refine kst_newsOf (by with_reducible assumption) (fun p hp => ?_); simp only [List.mem_cons, List.mem_append, List.cons_append, List.nil_append, hp, or_true, true_or])) | (first | (assumption) | (apply news_tail; assumption) | (apply news_tail; apply news_tail; assumption) | (apply news_tail; apply news_tail; apply news_tail; assumption) | (apply news_tail; apply news_tail; apply news_tail; apply news_tail; assumption) | (apply news_tail; apply news_tail; apply news_tail; apply news_tail; apply news_tail; assumption)))) ⟨_, _, rfl, rfl, [], by decide, _, hy, rfl⟩
end
section
open _root_.PySem _root_.PySem.W _root_.PySem.Spec _root_.PySem.Calls _root_.PyProof.Rows
theorem told_CL1 : True := by
  k_with_none
  w_top off
  k_with "own omega" => (with_reducible first | exact om6 (by assumption) rfl | exact om0 (by assumption) | exact om2 (by assumption) rfl | exact om3 (by assumption) rfl | exact om4 (by assumption) rfl | exact Int.emod_nonneg _ (by decide) | exact Int.emod_lt_of_pos _ (by decide) | exact om8 (by assumption) rfl | exact om9 (by assumption) rfl)
  k_with "storeName" => ((k_here; k_dflt (first | ((with_reducible show wpAny _ _ (storeName _ _ (Value.int _ _)) _ _ _); refine storeG_int (by k_asm) (by k_asm) ?_ (by rfl) (by rfl); intro hq9 tq9 kq9 Fq9 Nq9) | ((with_reducible show wpAny _ _ (storeName _ _ (Value.bytes _ _)) _ _ _); refine storeG_bytes (by k_asm) (by k_asm) ?_ (by rfl) (by rfl); intro hq9 tq9 kq9 Fq9 Nq9) | (refine storeG_any (by k_asm) (by k_asm) ?_ (by rfl) (by rfl); intro hq9 kq9 Fq9 Nq9)); (try k_sweep)))
  k_with "Go" => (refine go_on (by assumption) ?_)
  k_with "own kby_size" => ((first | assumption | omega | (simp only [List.length_append, List.length_cons, List.length_nil] at *; omega)))
  k_with "subscriptTail" => ((k_here; (with_reducible show wpAny _ _ (subscriptTail _ (Expr.Slice _ _ none _) (Value.bytes (List.toArray _) _) (Value.ref _)) _ _ _); (with_reducible rename Fr _ _ _ _ => Fq9); (with_reducible rename News _ _ _ _ => Nq9); (refine BY.slice_L (s := ⟨_, _, _, _, _⟩) Fq9 Nq9 (by constructor) (by constructor) (by kby_size) ?_); intro _ _ _ Fq9 Nq9 hlenq9))
  k_with "binaryOp Add bytes bytes" => ((k_here; (with_reducible show wpAny _ _ (binaryOp Operator.Add (Value.bytes (List.toArray _) _) (Value.bytes (List.toArray _) _)) _ _ _); (refine BY.add_L (by kby_size) ?_); intro _ _))
  k_with "compareOp Eq bytes bytes" => ((k_here; (with_reducible show wpAny _ _ (compareOp CmpOp.Eq (Value.bytes (List.toArray _) _) (Value.bytes (List.toArray _) _)) _ _ _); (refine BY.eq_L ?_)))
  k_with "compareOp NotEq bytes bytes" => ((k_here; (with_reducible show wpAny _ _ (compareOp CmpOp.NotEq (Value.bytes (List.toArray _) _) (Value.bytes (List.toArray _) _)) _ _ _); (refine BY.ne_L ?_)))
  k_with "subscriptTail" => ((k_here; (with_reducible show wpAny _ _ (subscriptTail _ _ (Value.bytes (List.toArray _) _) (Value.int _ _)) _ _ _); (refine BY.item_L (by kby_size) (by first | decide | omega) (by first | omega | (simp only [List.length_append, List.length_cons, List.length_nil] at *; omega)) ?_); intro _ _))
  k_with "compareOp NotIn int bytes" => ((k_here; (with_reducible show wpAny _ _ (compareOp CmpOp.NotIn (Value.int _ _) (Value.bytes (List.toArray _) _)) _ _ _); (refine BY.notIn_B ?_)))
  k_with "call type:int" => ((k_here; (with_reducible show wpAny _ _ (call (Value.type "int") [Value.bytes (List.toArray _) _]) _ _ _); (refine IR.call_int_bytes (by assumption) (by assumption) ?_)))
  k_with "getMethod bytes" => ((k_here; first | (with_reducible refine BW.meth_rindex ?_) | (with_reducible refine BW.meth_rsplit ?_) | (with_reducible refine BW.meth_split ?_) | (with_reducible refine BW.meth_join ?_)))
  k_with "call builtin:bytes.rindex" => ((k_here; first
  | (refine BW.rindex_found (by with_reducible assumption) ?_; intro _ _)
  | (refine BW.rindex_not (by with_reducible assumption) (by first | exact rfl | assumption) ?_; intro _ _ _ _ hxq9)))
  k_with "call builtin:bytes.rsplit" => ((k_here; first
  | (refine BW.rsplit_two (by k_asm) (by k_asm) (by kby_size) (by with_reducible assumption) ?_; intro Dq9 t1q9 t2q9 hq9 kq9 Fq9 Nq9 l1q9; (try k_lt l1q9))
  | (refine BW.rsplit_one (by k_asm) (by k_asm) (by kby_size) (by with_reducible assumption) ?_; intro Dq9 t1q9 hq9 kq9 Fq9 Nq9 l1q9; (try k_lt l1q9))))
  k_with "call builtin:bytes.split" => ((k_here; (refine BW.split_L (by k_asm) (by k_asm) (by kby_size) ?_); intro Dq9 vsq9 hq9 kq9 hvsq9 Fq9 Nq9 l1q9; (try k_lt l1q9)))
  k_with "call builtin:bytes.join" => ((k_here; (refine BW.join_L (News.isList (by k_asm) (by k_mem)) (by with_reducible assumption) (by kby_size) ?_); intro _ _))
  k_with "assign Tuple" => ((k_here; (with_reducible show wpAny _ _ (assign (Expr.Tuple _ _ _) _ (Value.ref _)) _ _ _); (refine BW.unpack_one (News.isList (by k_asm) (by k_mem)) (by exact rfl) (by exact rfl) (by exact rfl) ?_); intro _ _ _ _ hxq9))
  k_with "subscriptTail" => ((k_here; (with_reducible show wpAny _ _ (subscriptTail _ _ (Value.ref _) (Value.int _ _)) _ _ _); (refine BW.item_BL (News.isList (by k_asm) (by k_mem)) (by with_reducible assumption) (by first | assumption | omega) (by first | assumption | omega) (by first | assumption | omega) ?_); intro _))
  k_with "noteFrame ref" => ((k_here; k_dflt ((with_reducible rename Heap.MadeExc _ _ _ _ _ => hxMq9); (refine look_made2 (Heap.MadeExc.of hxMq9) (by k_asm) (by k_asm) (by assumption) ?_); clear hxMq9; intro hq9 tq9 Gq9 Fq9 Rq9 alq9 Uq9; (try dsimp only at Rq9 Uq9 ⊢))))
  k_with "leaving ref" => ((k_here; k_dflt ((with_reducible rename KtsDicts _ _ => kdX); (with_reducible rename Heap.MadeExc _ _ _ _ _ => hxMq9); (refine leave_raise2 (by assumption) (Heap.MadeExc.of hxMq9) (by assumption) (by k_asm) ?_); intro hq9 tq9 Sq9 alq9 Uq9; (have Rq9 := RaisedS.toK Sq9); (try dsimp only at Sq9 Rq9 Uq9 ⊢))))
  k_with "noteFrame ref" => ((k_here; k_dflt ((rename RaisedS _ _ _ _ _ _ _ _ _ => rsX); (with_reducible rename Alone _ _ => alX); (with_reducible show wpAny _ _ (noteFrame _ _) (fun _ s₂ => wpAny _ _ (setFlight _ none) (fun _ s₃ => wpAny _ _ (handleBy _ _ [ExceptHandler.ExceptHandler _ (some _) [Stmt.Raise (some _) (some _) _] _]) _ _ s₃) _ s₂) _ _); (refine look_on2 rsX alX (by assumption) (by assumption) ?_); intro hq9 Rq9 alq9 Uq9; (try dsimp only at Rq9 Uq9 ⊢))))
  k_with "handleBy ref" => ((k_here; k_dflt ((with_reducible rename Alone _ _ => alX); (refine hit2 (by assumption) alX (by assumption) (by assumption) (by assumption) (by assumption) (by assumption) (by assumption) (by kts_test) PySem.F.excBase_Exception PySem.F.excRaise_ValueError (by k_is) (by k_exc) ?_ (fun _ _ hh => hh)); intro hq9 tkq9 e2q9 t2q9 Rq9 RKq9 Uq9; (try dsimp only at Rq9 RKq9 Uq9 ⊢))))
  k_with "getMethod str" => ((k_here; (with_reducible refine BE.meth_encode ?_)))
  k_with "binaryOp Mod str ref" => ((k_here; (with_reducible show wpAny _ _ (binaryOp Operator.Mod (Value.str _ _) (Value.ref _)) _ _ _); k_dflt ((refine BF.fmt_rule (by k_asm) (by k_mem) (by decide +kernel) (by first | exact PG.fd1 (by omega) | exact PG.fd2 (by omega)) PG.fd3 ?_); intro _ _)))
  k_with "call builtin:str.encode" => ((k_here; k_dflt ((refine BE.encode (BF.ascii_fmt _ _ (by decide +kernel)) (BF.size_fmt (by decide +kernel) (by first | exact PG.fd1 (by omega) | exact PG.fd2 (by omega)) PG.fd3) ?_); intro _ _)))
  k_with "call type:str" => ((k_here; k_dflt (refine P.str_of_int (BF.log_lt (by omega)) ?_)))
  k_with "call builtin:str.encode" => ((k_here; k_dflt ((refine BE.encode (BF.ascii_int _) (PH.size_int (by omega)) ?_); intro _ _)))
  k_with "call builtin:bytes.join" => ((k_here; k_dflt ((refine BW.join_L (News.isList (by k_asm) (by k_mem)) (bytesAre_cons (bytesAre_cons (bytesAre_cons bytesAre_nil))) (PH.join3 (by assumption) (Nat.le_trans (PH.octs_int_len (by omega)) (by decide)) (Nat.le_trans (PH.octs_fmt_len (by decide +kernel) (by first | exact PG.fd1 (by omega) | exact PG.fd2 (by omega)) PG.fd3) (by decide))) ?_); intro _ _)))
  k_with "subscriptTail" => ((k_here; (with_reducible show wpAny _ _ (subscriptTail _ (PySem.Expr.Slice _ _ none _) (Value.ref _) (Value.ref _)) _ _ _); k_dflt (first
  | (refine BS.slice_from (by k_asm) (by k_asm) (News.isList (by k_asm) (by k_mem)) (by with_reducible assumption) (by constructor) (by constructor) (by omega) (by (try simp only [List.length_drop, List.length_take]); omega) ?_)
  | (refine BS.slice_upto (by k_asm) (by k_asm) (News.isList (by k_asm) (by k_mem)) (by with_reducible assumption) (by constructor) (by constructor) (by omega) (by (try simp only [List.length_drop, List.length_take]); omega) ?_)
  | (refine BS.slice_less (by k_asm) (by k_asm) (News.isList (by k_asm) (by k_mem)) (by with_reducible assumption) (by constructor) (by constructor) (by (try simp only [List.length_drop, List.length_take]); omega) ?_)); intro Dq9 wsq9 hq9 hvsq9 Fq9 Nq9 l1q9; (try k_lt l1q9)))
  k_with "subscriptTail" => ((k_here; (with_reducible show wpAny _ _ (subscriptTail _ _ (Value.ref _) (Value.int (-1) _)) _ _ _); (refine BS.item_last (News.isList (by k_asm) (by k_mem)) (by with_reducible assumption) (by first | assumption | omega) (by first | assumption | omega) ?_); intro _))
  k_with "call builtin:len" => ((k_here; (with_reducible show wpAny _ _ (call (Value.builtin "len") [Value.ref _]) _ _ _); (refine BS.len_B (News.isList (by k_asm) (by k_mem)) (by with_reducible assumption) (by (try simp only [List.length_drop, List.length_take]); omega) ?_); intro _ _))
  k_with "call builtin:divmod" => ((k_here; (with_reducible show wpAny _ _ (call (Value.builtin _) [Value.int _ _, Value.int _ _]) _ _ _); (refine divmod_K (by k_asm) (by k_asm) (by first | assumption | omega) (by assumption) ?_); intro Dq9 hq9 _ _ _ Fq9 Nq9 l1q9; (try k_lt l1q9)))
  trivial
noncomputable def layF (W C X : List UInt8) (sh : Int) : List UInt8 :=
  if sh = 1 then W ++ [32] ++ C
  else if sh = 2 then W ++ [32] ++ C ++ [32] ++ X ++ [32] ++ X
  else if sh = 3 then W ++ [9] ++ C ++ [32] ++ X
  else if sh = 4 then W
  else if sh = 5 then W ++ C ++ [32] ++ X
  else if sh = 6 then W ++ [32] ++ C ++ [32, 43, 32] ++ X
  else W ++ [32] ++ C ++ [32] ++ X
noncomputable def RetVX (V X : List UInt8) (v : Value) (new : Led) : Prop := ∃ a t1 t2, v = .ref a ∧ new = [(a, tupO [.bytes V.toArray t1, .bytes X.toArray t2])]
@[elab_as_elim] theorem RetVX.use {V X : List UInt8} {v : Value} {new : Led} {C : Value → Led → Prop} (q : RetVX V X v new) (k : ∀ (a : Addr) (t1 t2 : Tok), C (.ref a) [(a, tupO [.bytes V.toArray t1, .bytes X.toArray t2])]) : C v new := by
  obtain ⟨a, t1, t2, rfl, rfl⟩ := q
  exact k a t1 t2
theorem vx {D : Addr} {V V' X : List UInt8} {t1 t2 : Tok} (h : V = V') : RetVX V' X (.ref D) [(D, { cls := .type "tuple", data := .seq #[.bytes V.toArray t1, .bytes X.toArray t2] })] := ⟨D, t1, t2, rfl, by rw [h]⟩
set_option maxHeartbeats 1000000 in
theorem laid_shapes (w : World) (mean : ExcName → Option Value) (mg mb : Str → Option Value) (dp un : Nat) (gd : Option (List Code)) (cn : Str) (cs : Scope) (a : Addr) (ccd : Value) (cl : List (Str × Addr)) (outer : List Env) (base h₀ g : Heap) (L L' : Addr) (m m' : Str → Option Value) (news : Led) (s : Shared) (t0 t1 t2 t3 : Tok) (W C X : List UInt8) (sh : Int)
    (hW : W.length ≤ 600) (hC : C.length ≤ 100) (hX : X.length ≤ 100) :
    ∀ (st : List Stmt) (hst : st = (bodyAt w 215).drop 6) (sc : Scope) (hsc : sc = scopeAt w 215)
    (hdp : dp + 4 < recursionLimit) (hun : un + 8 * 4 < cLine)
    (FG : Fr h₀ L g m) (B : Below (ktrTop dp un gd cn cs L a ccd cl outer) base (envX cn cs L a ccd cl :: outer) g) (X' : (hd.heap_1 w.params).In g) (T : Top hd.view_1 (looseW hd.view_1 [Str.ofString "format_timezone"]) mean mg mb g)
    (F : Fr g L' s.heap (fun z => if z = Str.ofString "clock" then some (.bytes C.toArray t0) else if z = Str.ofString "shape" then some (.int sh t1) else if z = Str.ofString "who" then some (.bytes W.toArray t2) else if z = Str.ofString "text" then some (.bytes X.toArray t3) else m' z)) (N : News g L' s.heap news),
    wpAny (model Challenge.rw_ai0005_01.row.prog w) ((ktrTop dp un gd cn cs L a ccd cl outer).deeper (envOf (Str.ofString "_law_laid") sc L' 215 (.ref 214))) (execs st (envOf (Str.ofString "_law_laid") sc L' 215 (.ref 214)))
      (RetPost g L' s (RetVX (layF W C X sh) X) news) (fun _ _ => False) s := by
  k_fill
  intro st hst sc hsc hdp hun FG B X' T F N
  conv at hst => rhs; whnf
  conv at hsc => rhs; whnf
  subst hst hsc
  k_steps
  all_goals refine ret_post1 (vx ?_) (by assumption) (by assumption)
  all_goals first | (rw [layF, if_pos (by assumption)]) | (rw [layF, if_neg (by assumption), if_pos (by assumption)]) | (rw [layF, if_neg (by assumption), if_neg (by assumption), if_pos (by assumption)]) | (rw [layF, if_neg (by assumption), if_neg (by assumption), if_neg (by assumption), if_pos (by assumption)]) | (rw [layF, if_neg (by assumption), if_neg (by assumption), if_neg (by assumption), if_neg (by assumption), if_pos (by assumption)]) | (rw [layF, if_neg (by assumption), if_neg (by assumption), if_neg (by assumption), if_neg (by assumption), if_neg (by assumption), if_pos (by assumption)]) | (rw [layF, if_neg (by assumption), if_neg (by assumption), if_neg (by assumption), if_neg (by assumption), if_neg (by assumption), if_neg (by assumption)])
noncomputable def clockF (W C : List UInt8) (sh : Int) : List UInt8 := if C = [] ∧ (1 < sh ∨ BY.cut (some (-1)) none W ≠ [62]) then [48] else C
theorem ck1 {W C : List UInt8} {sh : Int} (h : C = []) (h2 : 1 < sh ∨ BY.cut (some (-1)) none W ≠ [62]) : [48] = clockF W C sh := by unfold clockF; rw [if_pos ⟨h, h2⟩]
theorem ck2 {W C : List UInt8} {sh : Int} (h1 : ¬ 1 < sh) (h2 : ¬ BY.cut (some (-1)) none W ≠ [62]) : C = clockF W C sh := by unfold clockF; rw [if_neg fun q => q.2.elim h1 h2]
theorem ck3 {W C : List UInt8} {sh : Int} (h : C ≠ []) : C = clockF W C sh := by unfold clockF; rw [if_neg fun q => h q.1]
noncomputable def ClkPost (g : Heap) (L' : Addr) (s : Shared) (C : List UInt8) (m' : Str → Option Value) (news : Led) (f : Flow) (s' : Shared) : Prop := f = .next ∧ ∃ t, Leaves g L' s s' (fun z => if z = Str.ofString "clock" then some (.bytes C.toArray t) else m' z) news
@[elab_as_elim] theorem ClkPost.use {g : Heap} {L' : Addr} {s : Shared} {C : List UInt8} {m' : Str → Option Value} {news : Led} {f : Flow} {s' : Shared} {MOT : Flow → Shared → Prop} (q : ClkPost g L' s C m' news f s')
    (k : ∀ t, ∀ (h' : Heap) (tk : Nat), Fr g L' h' (fun z => if z = Str.ofString "clock" then some (.bytes C.toArray t) else m' z) → News g L' h' news → MOT .next { s with heap := h', toks := tk }) : MOT f s' := by
  obtain ⟨rfl, t, h', tk, rfl, F, N⟩ := q
  exact k t h' tk F N
theorem clk_post {g h' : Heap} {L' : Addr} {s : Shared} {tk : Nat} {C C' : List UInt8} {t : Tok} {news : Led} {M m' : Str → Option Value} (e : C = C') (F : Fr g L' h' M) (N : News g L' h' news) (h1 : M (Str.ofString "clock") = some (.bytes C.toArray t)) (h2 : ∀ z, z ≠ Str.ofString "clock" → M z = m' z) : ClkPost g L' s C' m' news .next { s with heap := h', toks := tk } := by
  subst e
  refine ⟨rfl, t, h', tk, rfl, fr_ext F fun z => ?_, N⟩
  by_cases q : z = Str.ofString "clock"
  · rw [if_pos q, q, h1]
  · rw [if_neg q, h2 z q]
set_option maxHeartbeats 1000000 in
theorem laid_clock (w : World) (mean : ExcName → Option Value) (mg mb : Str → Option Value) (dp un : Nat) (gd : Option (List Code)) (cn : Str) (cs : Scope) (a : Addr) (ccd : Value) (cl : List (Str × Addr)) (outer : List Env) (base h₀ g : Heap) (L L' : Addr) (m m' : Str → Option Value) (news : Led) (s : Shared) (t0 t1 t2 : Tok) (W C : List UInt8) (sh : Int)
    (hW : W.length ≤ 600) (hC : C.length ≤ 100) :
    ∀ (st : Stmt) (hst : st = stAt w 215 5) (sc : Scope) (hsc : sc = scopeAt w 215)
    (hdp : dp + 4 < recursionLimit) (hun : un + 8 * 4 < cLine)
    (FG : Fr h₀ L g m) (B : Below (ktrTop dp un gd cn cs L a ccd cl outer) base (envX cn cs L a ccd cl :: outer) g) (X' : (hd.heap_1 w.params).In g) (T : Top hd.view_1 (looseW hd.view_1 [Str.ofString "format_timezone"]) mean mg mb g)
    (F : Fr g L' s.heap (fun z => if z = Str.ofString "clock" then some (.bytes C.toArray t0) else if z = Str.ofString "shape" then some (.int sh t1) else if z = Str.ofString "who" then some (.bytes W.toArray t2) else m' z)) (N : News g L' s.heap news),
    wpAny (model Challenge.rw_ai0005_01.row.prog w) ((ktrTop dp un gd cn cs L a ccd cl outer).deeper (envOf (Str.ofString "_law_laid") sc L' 215 (.ref 214))) (exec st (envOf (Str.ofString "_law_laid") sc L' 215 (.ref 214)))
      (ClkPost g L' s (clockF W C sh) (fun z => if z = Str.ofString "clock" then some (.bytes C.toArray t0) else if z = Str.ofString "shape" then some (.int sh t1) else if z = Str.ofString "who" then some (.bytes W.toArray t2) else m' z) news) (fun _ _ => False) s := by
  k_fill
  intro st hst sc hsc hdp hun FG B X' T F N
  conv at hst => rhs; whnf
  conv at hsc => rhs; whnf
  subst hst hsc
  k_steps
  · exact clk_post (ck1 (of_decide_eq_true (by assumption)) (.inl (by assumption))) (by assumption) (by assumption) (by with_unfolding_all rfl) (fun z q => by simp [q])
  · exact clk_post (ck1 (of_decide_eq_true (by assumption)) (.inr (by assumption))) (by assumption) (by assumption) (by with_unfolding_all rfl) (fun z q => by simp [q])
  · exact clk_post (ck2 (by assumption) (by assumption)) (by assumption) (by assumption) (by with_unfolding_all rfl) (fun z q => rfl)
  · exact clk_post (ck3 (of_decide_eq_false (by assumption))) (by assumption) (by assumption) (by with_unfolding_all rfl) (fun z q => rfl)
noncomputable def SetPost (x : Str) (g : Heap) (L' : Addr) (s : Shared) (C : List UInt8) (m' : Str → Option Value) (news : Led) (f : Flow) (s' : Shared) : Prop := f = .next ∧ ∃ t, Leaves g L' s s' (fun z => if z = x then some (.bytes C.toArray t) else m' z) news
@[elab_as_elim] theorem SetPost.use {x : Str} {g : Heap} {L' : Addr} {s : Shared} {C : List UInt8} {m' : Str → Option Value} {news : Led} {f : Flow} {s' : Shared} {MOT : Flow → Shared → Prop} (q : SetPost x g L' s C m' news f s')
    (k : ∀ t, ∀ (h' : Heap) (tk : Nat), Fr g L' h' (fun z => if z = x then some (.bytes C.toArray t) else m' z) → News g L' h' news → MOT .next { s with heap := h', toks := tk }) : MOT f s' := by
  obtain ⟨rfl, t, h', tk, rfl, F, N⟩ := q
  exact k t h' tk F N
theorem told_CL1_23 : True := by
  k_with "eval Call" => ((k_here; (with_reducible show wpAny _ _ (eval (PySem.Expr.Call (PySem.Expr.Name (Str.ofString "_law_plain") _) _ _ _) _) _ _ _); refine Call_ ?_))
  k_with "eval Call" => ((k_here; (with_reducible show wpAny _ _ (eval (PySem.Expr.Call (PySem.Expr.Name (Str.ofString "_law_zone") _) _ _ _) _) _ _ _); refine Call_ ?_))
  k_with "call ref" => ((k_here; (with_reducible show wpAny _ _ (call (Value.ref 131) _) _ _ _); k_dflt ((refine con_val (plain_con _ _ _ _ _ _) (by k_asm) (by k_asm) (by k_asm) (by k_asm) (by k_asm) (by first | exact rfl | assumption) (by ktr_room) (by ktr_units) ?_); intro hq9 tkq9 Fq9 Nq9)))
  k_with "call ref" => ((k_here; (with_reducible show wpAny _ _ (call (Value.ref 138) _) _ _ _); refine hold ?_))
  trivial
set_option maxHeartbeats 1000000 in
theorem laid_zone (w : World) (mean : ExcName → Option Value) (mg mb : Str → Option Value) (dp un : Nat) (gd : Option (List Code)) (cn : Str) (cs : Scope) (a : Addr) (ccd : Value) (cl : List (Str × Addr)) (outer : List Env) (base h₀ g : Heap) (L L' : Addr) (m m' : Str → Option Value) (news : Led) (s : Shared) (tz : Tok) (z : Addr) (sec : Int) (b : Bool) (X : List UInt8)
    (hsec : sec.natAbs < 10 ^ 60) (hX : lzF sec (b && PF.plainF sec) = some X) :
    ∀ (st : Stmt) (hst : st = stAt w 215 1) (sc : Scope) (hsc : sc = scopeAt w 215)
    (hdp : dp + 4 < recursionLimit) (hun : un + 8 * 4 < cLine)
    (FG : Fr h₀ L g m) (B : Below (ktrTop dp un gd cn cs L a ccd cl outer) base (envX cn cs L a ccd cl :: outer) g) (X' : (hd.heap_1 w.params).In g) (T : Top hd.view_1 (looseW hd.view_1 [Str.ofString "format_timezone"]) mean mg mb g)
    (F : Fr g L' s.heap (fun y => if y = Str.ofString "zone" then some (.ref z) else m' y)) (N : News g L' s.heap ((z, { cls := .type "tuple", data := .seq #[.int sec tz, .bool b] }) :: news)),
    wpAny (model Challenge.rw_ai0005_01.row.prog w) ((ktrTop dp un gd cn cs L a ccd cl outer).deeper (envOf (Str.ofString "_law_laid") sc L' 215 (.ref 214))) (exec st (envOf (Str.ofString "_law_laid") sc L' 215 (.ref 214)))
      (SetPost (Str.ofString "text") g L' s X (fun y => if y = Str.ofString "zone" then some (.ref z) else m' y) ((z, { cls := .type "tuple", data := .seq #[.int sec tz, .bool b] }) :: news)) (fun _ _ => False) s := by
  k_fill
  intro st hst sc hsc hdp hun FG B X' T F N
  conv at hst => rhs; whnf
  conv at hsc => rhs; whnf
  subst hst hsc
  cases b
  · k_steps
    unfold Hold
    refine con_use (lzone_con w mean mg mb _ _ hsec _) (by k_asm) (by k_asm) (by k_asm) (by k_asm) (by k_asm) (by first | exact rfl | assumption) (by ktr_room) (by ktr_units) ?_
    intro v new h' tk' hR F' N'
    rw [Bool.false_and] at hX
    rw [hX] at hR
    obtain ⟨t, rfl, rfl⟩ := hR
    dsimp only [List.nil_append] at N'
    k_steps
    exact ⟨rfl, _, _, _, rfl, by assumption, by assumption⟩
  · k_steps
    unfold Hold
    refine con_use (lzone_con w mean mg mb _ _ hsec _) (by k_asm) (by k_asm) (by k_asm) (by k_asm) (by k_asm) (by first | exact rfl | assumption) (by ktr_room) (by ktr_units) ?_
    intro v new h' tk' hR F' N'
    rw [Bool.true_and] at hX
    rw [hX] at hR
    obtain ⟨t, rfl, rfl⟩ := hR
    dsimp only [List.nil_append] at N'
    k_steps
    exact ⟨rfl, _, _, _, rfl, by assumption, by assumption⟩
end
section
open _root_.PySem _root_.PySem.W _root_.PySem.Spec _root_.PySem.Calls _root_.PyProof.Rows
theorem told_CL2 : True := by
  k_with_none
  w_top off
  k_with "own omega" => (with_reducible first | exact om6 (by assumption) rfl | exact om0 (by assumption) | exact om2 (by assumption) rfl | exact om3 (by assumption) rfl | exact om4 (by assumption) rfl | exact Int.emod_nonneg _ (by decide) | exact Int.emod_lt_of_pos _ (by decide) | exact om8 (by assumption) rfl | exact om9 (by assumption) rfl)
  k_with "storeName" => ((k_here; k_dflt (first | ((with_reducible show wpAny _ _ (storeName _ _ (Value.int _ _)) _ _ _); refine storeG_int (by k_asm) (by k_asm) ?_ (by rfl) (by rfl); intro hq9 tq9 kq9 Fq9 Nq9) | ((with_reducible show wpAny _ _ (storeName _ _ (Value.bytes _ _)) _ _ _); refine storeG_bytes (by k_asm) (by k_asm) ?_ (by rfl) (by rfl); intro hq9 tq9 kq9 Fq9 Nq9) | (refine storeG_any (by k_asm) (by k_asm) ?_ (by rfl) (by rfl); intro hq9 kq9 Fq9 Nq9)); (try k_sweep)))
  k_with "Go" => (refine go_on (by assumption) ?_)
  k_with "own kby_size" => ((first | assumption | omega | (simp only [List.length_append, List.length_cons, List.length_nil] at *; omega)))
  k_with "subscriptTail" => ((k_here; (with_reducible show wpAny _ _ (subscriptTail _ (Expr.Slice _ _ none _) (Value.bytes (List.toArray _) _) (Value.ref _)) _ _ _); (with_reducible rename Fr _ _ _ _ => Fq9); (with_reducible rename News _ _ _ _ => Nq9); (refine BY.slice_L (s := ⟨_, _, _, _, _⟩) Fq9 Nq9 (by constructor) (by constructor) (by kby_size) ?_); intro _ _ _ Fq9 Nq9 hlenq9))
  k_with "binaryOp Add bytes bytes" => ((k_here; (with_reducible show wpAny _ _ (binaryOp Operator.Add (Value.bytes (List.toArray _) _) (Value.bytes (List.toArray _) _)) _ _ _); (refine BY.add_L (by kby_size) ?_); intro _ _))
  k_with "compareOp Eq bytes bytes" => ((k_here; (with_reducible show wpAny _ _ (compareOp CmpOp.Eq (Value.bytes (List.toArray _) _) (Value.bytes (List.toArray _) _)) _ _ _); (refine BY.eq_L ?_)))
  k_with "compareOp NotEq bytes bytes" => ((k_here; (with_reducible show wpAny _ _ (compareOp CmpOp.NotEq (Value.bytes (List.toArray _) _) (Value.bytes (List.toArray _) _)) _ _ _); (refine BY.ne_L ?_)))
  k_with "subscriptTail" => ((k_here; (with_reducible show wpAny _ _ (subscriptTail _ _ (Value.bytes (List.toArray _) _) (Value.int _ _)) _ _ _); (refine BY.item_L (by kby_size) (by first | decide | omega) (by first | omega | (simp only [List.length_append, List.length_cons, List.length_nil] at *; omega)) ?_); intro _ _))
  k_with "compareOp NotIn int bytes" => ((k_here; (with_reducible show wpAny _ _ (compareOp CmpOp.NotIn (Value.int _ _) (Value.bytes (List.toArray _) _)) _ _ _); (refine BY.notIn_B ?_)))
  k_with "call type:int" => ((k_here; (with_reducible show wpAny _ _ (call (Value.type "int") [Value.bytes (List.toArray _) _]) _ _ _); (refine IR.call_int_bytes (by assumption) (by assumption) ?_)))
  k_with "getMethod bytes" => ((k_here; first | (with_reducible refine BW.meth_rindex ?_) | (with_reducible refine BW.meth_rsplit ?_) | (with_reducible refine BW.meth_split ?_) | (with_reducible refine BW.meth_join ?_)))
  k_with "call builtin:bytes.rindex" => ((k_here; first
  | (refine BW.rindex_found (by with_reducible assumption) ?_; intro _ _)
  | (refine BW.rindex_not (by with_reducible assumption) (by first | exact rfl | assumption) ?_; intro _ _ _ _ hxq9)))
  k_with "call builtin:bytes.rsplit" => ((k_here; first
  | (refine BW.rsplit_two (by k_asm) (by k_asm) (by kby_size) (by with_reducible assumption) ?_; intro Dq9 t1q9 t2q9 hq9 kq9 Fq9 Nq9 l1q9; (try k_lt l1q9))
  | (refine BW.rsplit_one (by k_asm) (by k_asm) (by kby_size) (by with_reducible assumption) ?_; intro Dq9 t1q9 hq9 kq9 Fq9 Nq9 l1q9; (try k_lt l1q9))))
  k_with "call builtin:bytes.split" => ((k_here; (refine BW.split_L (by k_asm) (by k_asm) (by kby_size) ?_); intro Dq9 vsq9 hq9 kq9 hvsq9 Fq9 Nq9 l1q9; (try k_lt l1q9)))
  k_with "call builtin:bytes.join" => ((k_here; (refine BW.join_L (News.isList (by k_asm) (by k_mem)) (by with_reducible assumption) (by kby_size) ?_); intro _ _))
  k_with "assign Tuple" => ((k_here; (with_reducible show wpAny _ _ (assign (Expr.Tuple _ _ _) _ (Value.ref _)) _ _ _); (refine BW.unpack_one (News.isList (by k_asm) (by k_mem)) (by exact rfl) (by exact rfl) (by exact rfl) ?_); intro _ _ _ _ hxq9))
  k_with "subscriptTail" => ((k_here; (with_reducible show wpAny _ _ (subscriptTail _ _ (Value.ref _) (Value.int _ _)) _ _ _); (refine BW.item_BL (News.isList (by k_asm) (by k_mem)) (by with_reducible assumption) (by first | assumption | omega) (by first | assumption | omega) (by first | assumption | omega) ?_); intro _))
  k_with "noteFrame ref" => ((k_here; k_dflt ((with_reducible rename Heap.MadeExc _ _ _ _ _ => hxMq9); (refine look_made2 (Heap.MadeExc.of hxMq9) (by k_asm) (by k_asm) (by assumption) ?_); clear hxMq9; intro hq9 tq9 Gq9 Fq9 Rq9 alq9 Uq9; (try dsimp only at Rq9 Uq9 ⊢))))
  k_with "leaving ref" => ((k_here; k_dflt ((with_reducible rename KtsDicts _ _ => kdX); (with_reducible rename Heap.MadeExc _ _ _ _ _ => hxMq9); (refine leave_raise2 (by assumption) (Heap.MadeExc.of hxMq9) (by assumption) (by k_asm) ?_); intro hq9 tq9 Sq9 alq9 Uq9; (have Rq9 := RaisedS.toK Sq9); (try dsimp only at Sq9 Rq9 Uq9 ⊢))))
  k_with "noteFrame ref" => ((k_here; k_dflt ((rename RaisedS _ _ _ _ _ _ _ _ _ => rsX); (with_reducible rename Alone _ _ => alX); (with_reducible show wpAny _ _ (noteFrame _ _) (fun _ s₂ => wpAny _ _ (setFlight _ none) (fun _ s₃ => wpAny _ _ (handleBy _ _ [ExceptHandler.ExceptHandler _ (some _) [Stmt.Raise (some _) (some _) _] _]) _ _ s₃) _ s₂) _ _); (refine look_on2 rsX alX (by assumption) (by assumption) ?_); intro hq9 Rq9 alq9 Uq9; (try dsimp only at Rq9 Uq9 ⊢))))
  k_with "handleBy ref" => ((k_here; k_dflt ((with_reducible rename Alone _ _ => alX); (refine hit2 (by assumption) alX (by assumption) (by assumption) (by assumption) (by assumption) (by assumption) (by assumption) (by kts_test) PySem.F.excBase_Exception PySem.F.excRaise_ValueError (by k_is) (by k_exc) ?_ (fun _ _ hh => hh)); intro hq9 tkq9 e2q9 t2q9 Rq9 RKq9 Uq9; (try dsimp only at Rq9 RKq9 Uq9 ⊢))))
  k_with "getMethod str" => ((k_here; (with_reducible refine BE.meth_encode ?_)))
  k_with "binaryOp Mod str ref" => ((k_here; (with_reducible show wpAny _ _ (binaryOp Operator.Mod (Value.str _ _) (Value.ref _)) _ _ _); k_dflt ((refine BF.fmt_rule (by k_asm) (by k_mem) (by decide +kernel) (by first | exact PG.fd1 (by omega) | exact PG.fd2 (by omega)) PG.fd3 ?_); intro _ _)))
  k_with "call builtin:str.encode" => ((k_here; k_dflt ((refine BE.encode (BF.ascii_fmt _ _ (by decide +kernel)) (BF.size_fmt (by decide +kernel) (by first | exact PG.fd1 (by omega) | exact PG.fd2 (by omega)) PG.fd3) ?_); intro _ _)))
  k_with "call type:str" => ((k_here; k_dflt (refine P.str_of_int (BF.log_lt (by omega)) ?_)))
  k_with "call builtin:str.encode" => ((k_here; k_dflt ((refine BE.encode (BF.ascii_int _) (PH.size_int (by omega)) ?_); intro _ _)))
  k_with "call builtin:bytes.join" => ((k_here; k_dflt ((refine BW.join_L (News.isList (by k_asm) (by k_mem)) (bytesAre_cons (bytesAre_cons (bytesAre_cons bytesAre_nil))) (PH.join3 (by assumption) (Nat.le_trans (PH.octs_int_len (by omega)) (by decide)) (Nat.le_trans (PH.octs_fmt_len (by decide +kernel) (by first | exact PG.fd1 (by omega) | exact PG.fd2 (by omega)) PG.fd3) (by decide))) ?_); intro _ _)))
  k_with "subscriptTail" => ((k_here; (with_reducible show wpAny _ _ (subscriptTail _ (PySem.Expr.Slice _ _ none _) (Value.ref _) (Value.ref _)) _ _ _); k_dflt (first
  | (refine BS.slice_from (by k_asm) (by k_asm) (News.isList (by k_asm) (by k_mem)) (by with_reducible assumption) (by constructor) (by constructor) (by omega) (by (try simp only [List.length_drop, List.length_take]); omega) ?_)
  | (refine BS.slice_upto (by k_asm) (by k_asm) (News.isList (by k_asm) (by k_mem)) (by with_reducible assumption) (by constructor) (by constructor) (by omega) (by (try simp only [List.length_drop, List.length_take]); omega) ?_)
  | (refine BS.slice_less (by k_asm) (by k_asm) (News.isList (by k_asm) (by k_mem)) (by with_reducible assumption) (by constructor) (by constructor) (by (try simp only [List.length_drop, List.length_take]); omega) ?_)); intro Dq9 wsq9 hq9 hvsq9 Fq9 Nq9 l1q9; (try k_lt l1q9)))
  k_with "subscriptTail" => ((k_here; (with_reducible show wpAny _ _ (subscriptTail _ _ (Value.ref _) (Value.int (-1) _)) _ _ _); (refine BS.item_last (News.isList (by k_asm) (by k_mem)) (by with_reducible assumption) (by first | assumption | omega) (by first | assumption | omega) ?_); intro _))
  k_with "call builtin:len" => ((k_here; (with_reducible show wpAny _ _ (call (Value.builtin "len") [Value.ref _]) _ _ _); (refine BS.len_B (News.isList (by k_asm) (by k_mem)) (by with_reducible assumption) (by (try simp only [List.length_drop, List.length_take]); omega) ?_); intro _ _))
  k_with "call builtin:divmod" => ((k_here; (with_reducible show wpAny _ _ (call (Value.builtin _) [Value.int _ _, Value.int _ _]) _ _ _); (refine divmod_K (by k_asm) (by k_asm) (by first | assumption | omega) (by assumption) ?_); intro Dq9 hq9 _ _ _ Fq9 Nq9 l1q9; (try k_lt l1q9)))
  trivial
theorem clock_len {x : List UInt8} (h : ClockOk x) : x.length ≤ 24 := by
  obtain ⟨s, hs, y, hy, rfl⟩ := h
  have h1 := signs_ok s hs
  have h2 := hy.1
  rw [List.length_append]; (first | lia | omega)
theorem zone_len {x : List UInt8} (h : ZoneOk x) : x.length ≤ 24 := by
  rcases h.2 with rfl | h
  · decide
  · exact clock_len h
noncomputable def LaidOk (kind : Int) (who : List UInt8) (when sec : Int) (b : Bool) (V X : List UInt8) : Prop := ∃ W C sh, V = layF W (clockF W C sh) X sh ∧
  ((kind ≤ 5 ∧ W = who ∧ sh = 0) ∨ (5 < kind ∧ W ∈ PF.people ∧ 0 ≤ sh ∧ sh < 12)) ∧
  ((kind = 4 ∧ C = decI when ∧ ZoneOk X) ∨ (kind = 5 ∧ ClockOk C ∧ lzF sec (b && PF.plainF sec) = some X) ∨ (5 < kind ∧ (ClockOk C ∨ C = decI when) ∧ (ZoneOk X ∨ lzF sec (b && PF.plainF sec) = some X)))
noncomputable def RetLaid (kind : Int) (who : List UInt8) (when sec : Int) (b : Bool) (v : Value) (new : Led) : Prop := ∃ V X, RetVX V X v new ∧ LaidOk kind who when sec b V X
theorem RetLaid.mk {kind : Int} {who : List UInt8} {when sec : Int} {b : Bool} {V X : List UInt8} {a : Addr} {t1 t2 : Tok} (h : LaidOk kind who when sec b V X) : RetLaid kind who when sec b (.ref a) [(a, tupO [.bytes V.toArray t1, .bytes X.toArray t2])] := ⟨V, X, ⟨a, t1, t2, rfl, rfl⟩, h⟩
noncomputable def ConN (w : World) (mean : ExcName → Option Value) (mg mb : Str → Option Value) (D : Nat) (need : Addr × Obj) (f : Addr) (vs : List Value) (Ret : Value → Led → Prop) : Prop :=
  ∀ (dp un : Nat) (gd : Option (List Code)) (cn : Str) (cs : Scope) (a : Addr) (ccd : Value) (cl : List (Str × Addr)) (outer : List Env) (A₀ : Around) (base h₀ : Heap) (L : Addr) (m : Str → Option Value) (news : Led) (s : Shared) (Q E : Value → Shared → Prop),
    Below A₀ base outer h₀ → Fr h₀ L s.heap m → (hd.heap_1 w.params).In h₀ → News h₀ L s.heap (need :: news) → Top hd.view_1 (looseW hd.view_1 [Str.ofString "format_timezone"]) mean mg mb h₀ → cs.kind = .function →
    dp + D < recursionLimit → un + 8 * D < cLine →
    (∀ v new h' tk', Ret v new → Fr h₀ L h' m → News h₀ L h' (new ++ need :: news) → Q v { s with heap := h', toks := tk' }) →
    wpAny (model Challenge.rw_ai0005_01.row.prog w) (ktrTop dp un gd cn cs L a ccd cl outer) (call (.ref f) vs) Q E s
theorem in1 {g h : Heap} {L : Addr} {M : Str → Option Value} {x1 : Str} {v1 : Value} (F : Fr g L h M) (h1 : M x1 = some v1) : Fr g L h (fun y => if y = x1 then some v1 else M y) := by
  refine fr_ext F fun y => ?_
  by_cases q1 : y = x1
  · rw [if_pos q1, q1, h1]
  · rw [if_neg q1]
theorem told_CL2_24 : True := by
  k_with "exec Assign" => ((k_here; (with_reducible show wpAny _ _ (exec (Stmt.Assign [PySem.Expr.Name (Str.ofString "text") _] (PySem.Expr.Call (PySem.Expr.Name (Str.ofString "_law_zone") _) _ _ _) _) _) _ _ _); refine hold ?_))
  k_with "exec If" => ((k_here; (with_reducible show wpAny _ _ (exec (Stmt.If (PySem.Expr.BoolOp BoolOp.And _ _) _ _ _) _) _ _ _); refine hold ?_))
  k_with "execs cons" => ((k_here; (with_reducible show wpAny _ _ (execs (Stmt.If (PySem.Expr.Compare (PySem.Expr.Name (Str.ofString "shape") _) _ _ _) _ _ _ :: _) _) _ _ _); refine hold ?_))
  k_with "call ref" => ((k_here; (with_reducible show wpAny _ _ (call (Value.ref 82) _) _ _ _); refine hold ?_))
  k_with "call ref" => ((k_here; (with_reducible show wpAny _ _ (call (Value.ref 117) _) _ _ _); refine hold ?_))
  k_with "call ref" => ((k_here; (with_reducible show wpAny _ _ (call (Value.ref 124) _) _ _ _); refine hold ?_))
  trivial
theorem people_len : ∀ y ∈ PF.people, y.length ≤ 600 := by decide
theorem clockF_len {W C : List UInt8} {sh : Int} (h : C.length ≤ 100) : (clockF W C sh).length ≤ 100 := by
  unfold clockF
  split
  · show 1 ≤ 100; decide
  · exact h
set_option maxHeartbeats 1000000 in
theorem laid_con4 (w : World) (mean : ExcName → Option Value) (mg mb : Str → Option Value) (rest when sec : Int) (who : List UInt8) (b : Bool) (z : Addr) (t1 t2 t3 t4 tz : Tok) (hwho : who.length ≤ 600) (hwhen : when.natAbs < 10 ^ 60) (hsec : sec.natAbs < 10 ^ 60) (h60 : sec % 60 = 0) :
    ConN w mean mg mb 4 (z, { cls := .type "tuple", data := .seq #[.int sec tz, .bool b] }) 215 [.int 4 t1, .int rest t2, .bytes who.toArray t3, .int when t4, .ref z] (RetLaid 4 who when sec b) := by
  unfold ConN
  k_fill
  intro dp un gd cn cs a ccd cl outer A₀ base h₀ L m news s Q E B F X N T hk hd hu hret
  obtain ⟨X0, hX0⟩ : ∃ x, lzF sec (b && PF.plainF sec) = some x := by unfold lzF; rw [if_neg (by omega)]; exact ⟨_, rfl⟩
  have hxl := lz_len hsec hX0
  have hcl := PH.octs_int_len (n := when) (Nat.lt_of_lt_of_le hwhen (by decide))
  refine wpAny_call ?_
  w_strict (k_dflt cell_enter; k_steps)
  unfold Hold
  rename Fr _ _ _ _ => F'
  rename News _ _ _ _ => N'
  refine wpAny_mono (laid_zone w mean mg mb dp un gd cn cs a ccd cl outer base h₀ _ L _ m _ news _ _ _ sec b X0 hsec hX0 _ rfl _ rfl hd hu (by assumption) (by assumption) (by assumption) (by assumption) (in1 F' (by with_unfolding_all rfl)) (news_sub N' (fun p hp => .tail _ hp))) (fun _ _ q => SetPost.use q ?_) (fun _ _ h => h.elim)
  intro t9 h9 tk9 F9 N9
  clear F' N'
  dsimp only at F9 ⊢
  k_steps
  unfold Hold
  refine con_use (zlaid_con w mean mg mb _ _) (by k_asm) (by k_asm) (by k_asm) (by k_asm) (by k_asm) (by first | exact rfl | assumption) (by ktr_room) (by ktr_units) ?_
  intro v new h' tk' hR F'
  refine RetP.use hR ?_
  intro X1 t hX1 N'
  clear hR
  dsimp only [List.nil_append] at N'
  have hx1 := zone_len hX1
  k_steps
  unfold Hold
  rename Fr _ _ _ _ => F'
  rename News _ _ _ _ => N'
  refine wpAny_mono (laid_clock w mean mg mb dp un gd cn cs a ccd cl outer base h₀ _ L _ m _ _ _ _ _ _ who (BE.octs (Str.ofString (toString when))) 0 hwho (by omega) _ rfl _ rfl hd hu (by assumption) (by assumption) (by assumption) (by assumption) (in3 F' (by with_unfolding_all rfl) (by with_unfolding_all rfl) (by with_unfolding_all rfl)) N') (fun _ _ q => ClkPost.use q ?_) (fun _ _ h => h.elim)
  intro t9 h9 tk9 F9 N9
  clear F' N'
  dsimp only at F9 ⊢
  k_steps
  unfold Hold
  rename Fr _ _ _ _ => F'
  rename News _ _ _ _ => N'
  refine wpAny_mono (laid_shapes w mean mg mb dp un gd cn cs a ccd cl outer base h₀ _ L _ m _ _ _ _ _ _ _ who (clockF who (BE.octs (Str.ofString (toString when))) 0) X1 0 hwho (clockF_len (by omega)) (by omega) _ rfl _ rfl hd hu (by assumption) (by assumption) (by assumption) (by assumption) (in4 F' (by with_unfolding_all rfl) (by with_unfolding_all rfl) (by with_unfolding_all rfl) (by with_unfolding_all rfl)) N') (fun _ _ q => RetPost.use q ?_) (fun _ _ h => h.elim)
  intro v new m9 h9 tk9 hR F9 N9
  clear F' N'
  dsimp only
  revert N9; refine RetVX.use hR ?_; intro a7 t7 t8 N9
  k_steps
  exact hret _ _ _ _ (RetLaid.mk ⟨who, (BE.octs (Str.ofString (toString when))), 0, rfl, .inl ⟨by decide, rfl, rfl⟩, .inl ⟨rfl, PD.octs_int when, hX1⟩⟩) (by assumption) (by first | exact news_keep (by assumption) (fun p hp => by first | exact hp | exact .tail _ hp | exact .tail _ (.tail _ hp) | exact .tail _ (.tail _ (.tail _ hp)) | exact .tail _ (.tail _ (.tail _ (.tail _ hp))) | exact .tail _ (.tail _ (.tail _ (.tail _ (.tail _ hp)))) | exact .tail _ (.tail _ (.tail _ (.tail _ (.tail _ (.tail _ hp)))))) | exact news_sub (by assumption) (fun p hp => by simp only [List.mem_cons, List.cons_append, List.nil_append] at hp ⊢; rcases hp with h | h | h <;> first | exact .inl h | exact .inr (.inl h) | exact .inr (.inr (.inl h)) | exact .inr (.inr (.inr (.inl h))) | exact .inr (.inr (.inr (.inr (.inl h)))) | exact .inr (.inr h) | exact .inr (.inr (.inr h)) | exact .inr (.inr (.inr (.inr h))) | exact .inr (.inr (.inr (.inr (.inr h)))) | exact .inr (.inr (.inr (.inr (.inr (.inr h)))))))
set_option maxHeartbeats 1000000 in
theorem laid_con5 (w : World) (mean : ExcName → Option Value) (mg mb : Str → Option Value) (rest when sec : Int) (who : List UInt8) (b : Bool) (z : Addr) (t1 t2 t3 t4 tz : Tok) (hwho : who.length ≤ 600) (hwhen : when.natAbs < 10 ^ 60) (hsec : sec.natAbs < 10 ^ 60) (h60 : sec % 60 = 0) :
    ConN w mean mg mb 4 (z, { cls := .type "tuple", data := .seq #[.int sec tz, .bool b] }) 215 [.int 5 t1, .int rest t2, .bytes who.toArray t3, .int when t4, .ref z] (RetLaid 5 who when sec b) := by
  unfold ConN
  k_fill
  intro dp un gd cn cs a ccd cl outer A₀ base h₀ L m news s Q E B F X N T hk hd hu hret
  obtain ⟨X0, hX0⟩ : ∃ x, lzF sec (b && PF.plainF sec) = some x := by unfold lzF; rw [if_neg (by omega)]; exact ⟨_, rfl⟩
  have hxl := lz_len hsec hX0
  have hcl := PH.octs_int_len (n := when) (Nat.lt_of_lt_of_le hwhen (by decide))
  refine wpAny_call ?_
  w_strict (k_dflt cell_enter; k_steps)
  unfold Hold
  rename Fr _ _ _ _ => F'
  rename News _ _ _ _ => N'
  refine wpAny_mono (laid_zone w mean mg mb dp un gd cn cs a ccd cl outer base h₀ _ L _ m _ news _ _ _ sec b X0 hsec hX0 _ rfl _ rfl hd hu (by assumption) (by assumption) (by assumption) (by assumption) (in1 F' (by with_unfolding_all rfl)) (news_sub N' (fun p hp => .tail _ hp))) (fun _ _ q => SetPost.use q ?_) (fun _ _ h => h.elim)
  intro t9 h9 tk9 F9 N9
  clear F' N'
  dsimp only at F9 ⊢
  k_steps
  unfold Hold
  refine con_use (claid_con w mean mg mb _ _) (by k_asm) (by k_asm) (by k_asm) (by k_asm) (by k_asm) (by first | exact rfl | assumption) (by ktr_room) (by ktr_units) ?_
  intro v new h' tk' hR F'
  refine RetP.use hR ?_
  intro C1 t hC1 N'
  clear hR
  dsimp only [List.nil_append] at N'
  have hc1 := clock_len hC1
  k_steps
  unfold Hold
  rename Fr _ _ _ _ => F'
  rename News _ _ _ _ => N'
  refine wpAny_mono (laid_clock w mean mg mb dp un gd cn cs a ccd cl outer base h₀ _ L _ m _ _ _ _ _ _ who C1 0 hwho (by omega) _ rfl _ rfl hd hu (by assumption) (by assumption) (by assumption) (by assumption) (in3 F' (by with_unfolding_all rfl) (by with_unfolding_all rfl) (by with_unfolding_all rfl)) N') (fun _ _ q => ClkPost.use q ?_) (fun _ _ h => h.elim)
  intro t9 h9 tk9 F9 N9
  clear F' N'
  dsimp only at F9 ⊢
  k_steps
  unfold Hold
  rename Fr _ _ _ _ => F'
  rename News _ _ _ _ => N'
  refine wpAny_mono (laid_shapes w mean mg mb dp un gd cn cs a ccd cl outer base h₀ _ L _ m _ _ _ _ _ _ _ who (clockF who C1 0) X0 0 hwho (clockF_len (by omega)) (by omega) _ rfl _ rfl hd hu (by assumption) (by assumption) (by assumption) (by assumption) (in4 F' (by with_unfolding_all rfl) (by with_unfolding_all rfl) (by with_unfolding_all rfl) (by with_unfolding_all rfl)) N') (fun _ _ q => RetPost.use q ?_) (fun _ _ h => h.elim)
  intro v new m9 h9 tk9 hR F9 N9
  clear F' N'
  dsimp only
  revert N9; refine RetVX.use hR ?_; intro a7 t7 t8 N9
  k_steps
  exact hret _ _ _ _ (RetLaid.mk ⟨who, C1, 0, rfl, .inl ⟨by decide, rfl, rfl⟩, .inr (.inl ⟨rfl, hC1, hX0⟩)⟩) (by assumption) (by first | exact news_keep (by assumption) (fun p hp => by first | exact hp | exact .tail _ hp | exact .tail _ (.tail _ hp) | exact .tail _ (.tail _ (.tail _ hp)) | exact .tail _ (.tail _ (.tail _ (.tail _ hp))) | exact .tail _ (.tail _ (.tail _ (.tail _ (.tail _ hp)))) | exact .tail _ (.tail _ (.tail _ (.tail _ (.tail _ (.tail _ hp)))))) | exact news_sub (by assumption) (fun p hp => by simp only [List.mem_cons, List.cons_append, List.nil_append] at hp ⊢; rcases hp with h | h | h <;> first | exact .inl h | exact .inr (.inl h) | exact .inr (.inr (.inl h)) | exact .inr (.inr (.inr (.inl h))) | exact .inr (.inr (.inr (.inr (.inl h)))) | exact .inr (.inr h) | exact .inr (.inr (.inr h)) | exact .inr (.inr (.inr (.inr h))) | exact .inr (.inr (.inr (.inr (.inr h)))) | exact .inr (.inr (.inr (.inr (.inr (.inr h)))))))
set_option maxHeartbeats 1000000 in
theorem laid_con6 (w : World) (mean : ExcName → Option Value) (mg mb : Str → Option Value) (rest when sec : Int) (who : List UInt8) (b : Bool) (z : Addr) (t1 t2 t3 t4 tz : Tok) (hwho : who.length ≤ 600) (hwhen : when.natAbs < 10 ^ 60) (hsec : sec.natAbs < 10 ^ 60) (h60 : sec % 60 = 0) :
    ConN w mean mg mb 4 (z, { cls := .type "tuple", data := .seq #[.int sec tz, .bool b] }) 215 [.int 6 t1, .int rest t2, .bytes who.toArray t3, .int when t4, .ref z] (RetLaid 6 who when sec b) := by
  unfold ConN
  k_fill
  intro dp un gd cn cs a ccd cl outer A₀ base h₀ L m news s Q E B F X N T hk hd hu hret
  obtain ⟨X0, hX0⟩ : ∃ x, lzF sec (b && PF.plainF sec) = some x := by unfold lzF; rw [if_neg (by omega)]; exact ⟨_, rfl⟩
  have hxl := lz_len hsec hX0
  have hcl := PH.octs_int_len (n := when) (Nat.lt_of_lt_of_le hwhen (by decide))
  have hp0 : 0 ≤ rest.fmod 12 := by rw [Int.fmod_eq_emod_of_nonneg _ (by decide)]; omega
  have hp1 : rest.fmod 12 < (PF.people.length : Int) := by rw [Int.fmod_eq_emod_of_nonneg _ (by decide), show PF.people.length = 12 by decide]; omega
  have hp2 : rest.fmod 12 < 12 := by rw [show PF.people.length = 12 by decide] at hp1; exact hp1
  have hpm := people_at hp0 hp1
  have hpl := people_len _ hpm
  refine wpAny_call ?_
  w_strict (k_dflt cell_enter; k_steps)
  unfold Hold
  rename Fr _ _ _ _ => F'
  rename News _ _ _ _ => N'
  refine wpAny_mono (laid_zone w mean mg mb dp un gd cn cs a ccd cl outer base h₀ _ L _ m _ news _ _ _ sec b X0 hsec hX0 _ rfl _ rfl hd hu (by assumption) (by assumption) (by assumption) (by assumption) (in1 F' (by with_unfolding_all rfl)) (news_sub N' (fun p hp => .tail _ hp))) (fun _ _ q => SetPost.use q ?_) (fun _ _ h => h.elim)
  intro t9 h9 tk9 F9 N9
  clear F' N'
  dsimp only at F9 ⊢
  k_steps
  unfold Hold
  refine con_use (people_con w mean mg mb) (by k_asm) (by k_asm) (by k_asm) (by k_asm) (by k_asm) (by first | exact rfl | assumption) (by ktr_room) (by ktr_units) ?_
  intro v new h' tk' hR F'
  refine retL_use hR ?_
  intro a9 vs9 hB9 N'
  clear hR
  dsimp only [List.singleton_append] at N'
  k_steps
  unfold Hold
  rename Fr _ _ _ _ => F'
  rename News _ _ _ _ => N'
  refine wpAny_mono (laid_clock w mean mg mb dp un gd cn cs a ccd cl outer base h₀ _ L _ m _ _ _ _ _ _ (PF.people.getD (rest.fmod 12).toNat []) (BE.octs (Str.ofString (toString when))) ((rest.fdiv 12).fmod 12) hpl (by omega) _ rfl _ rfl hd hu (by assumption) (by assumption) (by assumption) (by assumption) (in3 F' (by with_unfolding_all rfl) (by with_unfolding_all rfl) (by with_unfolding_all rfl)) N') (fun _ _ q => ClkPost.use q ?_) (fun _ _ h => h.elim)
  intro t9 h9 tk9 F9 N9
  clear F' N'
  dsimp only at F9 ⊢
  k_steps
  unfold Hold
  rename Fr _ _ _ _ => F'
  rename News _ _ _ _ => N'
  refine wpAny_mono (laid_shapes w mean mg mb dp un gd cn cs a ccd cl outer base h₀ _ L _ m _ _ _ _ _ _ _ (PF.people.getD (rest.fmod 12).toNat []) (clockF (PF.people.getD (rest.fmod 12).toNat []) (BE.octs (Str.ofString (toString when))) ((rest.fdiv 12).fmod 12)) X0 ((rest.fdiv 12).fmod 12) hpl (clockF_len (by omega)) (by omega) _ rfl _ rfl hd hu (by assumption) (by assumption) (by assumption) (by assumption) (in4 F' (by with_unfolding_all rfl) (by with_unfolding_all rfl) (by with_unfolding_all rfl) (by with_unfolding_all rfl)) N') (fun _ _ q => RetPost.use q ?_) (fun _ _ h => h.elim)
  intro v new m9 h9 tk9 hR F9 N9
  clear F' N'
  dsimp only
  revert N9; refine RetVX.use hR ?_; intro a7 t7 t8 N9
  k_steps
  exact hret _ _ _ _ (RetLaid.mk ⟨(PF.people.getD (rest.fmod 12).toNat []), (BE.octs (Str.ofString (toString when))), ((rest.fdiv 12).fmod 12), rfl, .inr ⟨by decide, hpm, by rw [Int.fmod_eq_emod_of_nonneg _ (by decide)]; omega, by rw [Int.fmod_eq_emod_of_nonneg _ (by decide)]; omega⟩, .inr (.inr ⟨by decide, .inr (PD.octs_int when), .inr hX0⟩)⟩) (by assumption) (by first | exact news_keep (by assumption) (fun p hp => by first | exact hp | exact .tail _ hp | exact .tail _ (.tail _ hp) | exact .tail _ (.tail _ (.tail _ hp)) | exact .tail _ (.tail _ (.tail _ (.tail _ hp))) | exact .tail _ (.tail _ (.tail _ (.tail _ (.tail _ hp)))) | exact .tail _ (.tail _ (.tail _ (.tail _ (.tail _ (.tail _ hp)))))) | exact news_sub (by assumption) (fun p hp => by simp only [List.mem_cons, List.cons_append, List.nil_append] at hp ⊢; rcases hp with h | h | h <;> first | exact .inl h | exact .inr (.inl h) | exact .inr (.inr (.inl h)) | exact .inr (.inr (.inr (.inl h))) | exact .inr (.inr (.inr (.inr (.inl h)))) | exact .inr (.inr h) | exact .inr (.inr (.inr h)) | exact .inr (.inr (.inr (.inr h))) | exact .inr (.inr (.inr (.inr (.inr h)))) | exact .inr (.inr (.inr (.inr (.inr (.inr h)))))))
set_option maxHeartbeats 1000000 in
theorem laid_con7 (w : World) (mean : ExcName → Option Value) (mg mb : Str → Option Value) (rest when sec : Int) (who : List UInt8) (b : Bool) (z : Addr) (t1 t2 t3 t4 tz : Tok) (hwho : who.length ≤ 600) (hwhen : when.natAbs < 10 ^ 60) (hsec : sec.natAbs < 10 ^ 60) (h60 : sec % 60 = 0) :
    ConN w mean mg mb 4 (z, { cls := .type "tuple", data := .seq #[.int sec tz, .bool b] }) 215 [.int 7 t1, .int rest t2, .bytes who.toArray t3, .int when t4, .ref z] (RetLaid 7 who when sec b) := by
  unfold ConN
  k_fill
  intro dp un gd cn cs a ccd cl outer A₀ base h₀ L m news s Q E B F X N T hk hd hu hret
  obtain ⟨X0, hX0⟩ : ∃ x, lzF sec (b && PF.plainF sec) = some x := by unfold lzF; rw [if_neg (by omega)]; exact ⟨_, rfl⟩
  have hxl := lz_len hsec hX0
  have hcl := PH.octs_int_len (n := when) (Nat.lt_of_lt_of_le hwhen (by decide))
  have hp0 : 0 ≤ rest.fmod 12 := by rw [Int.fmod_eq_emod_of_nonneg _ (by decide)]; omega
  have hp1 : rest.fmod 12 < (PF.people.length : Int) := by rw [Int.fmod_eq_emod_of_nonneg _ (by decide), show PF.people.length = 12 by decide]; omega
  have hp2 : rest.fmod 12 < 12 := by rw [show PF.people.length = 12 by decide] at hp1; exact hp1
  have hpm := people_at hp0 hp1
  have hpl := people_len _ hpm
  refine wpAny_call ?_
  w_strict (k_dflt cell_enter; k_steps)
  unfold Hold
  rename Fr _ _ _ _ => F'
  rename News _ _ _ _ => N'
  refine wpAny_mono (laid_zone w mean mg mb dp un gd cn cs a ccd cl outer base h₀ _ L _ m _ news _ _ _ sec b X0 hsec hX0 _ rfl _ rfl hd hu (by assumption) (by assumption) (by assumption) (by assumption) (in1 F' (by with_unfolding_all rfl)) (news_sub N' (fun p hp => .tail _ hp))) (fun _ _ q => SetPost.use q ?_) (fun _ _ h => h.elim)
  intro t9 h9 tk9 F9 N9
  clear F' N'
  dsimp only at F9 ⊢
  k_steps
  unfold Hold
  refine con_use (people_con w mean mg mb) (by k_asm) (by k_asm) (by k_asm) (by k_asm) (by k_asm) (by first | exact rfl | assumption) (by ktr_room) (by ktr_units) ?_
  intro v new h' tk' hR F'
  refine retL_use hR ?_
  intro a9 vs9 hB9 N'
  clear hR
  dsimp only [List.singleton_append] at N'
  k_steps
  unfold Hold
  refine con_use (zlaid_con w mean mg mb _ _) (by k_asm) (by k_asm) (by k_asm) (by k_asm) (by k_asm) (by first | exact rfl | assumption) (by ktr_room) (by ktr_units) ?_
  intro v new h' tk' hR F'
  refine RetP.use hR ?_
  intro X1 t hX1 N'
  clear hR
  dsimp only [List.nil_append] at N'
  have hx1 := zone_len hX1
  k_steps
  unfold Hold
  refine con_use (claid_con w mean mg mb _ _) (by k_asm) (by k_asm) (by k_asm) (by k_asm) (by k_asm) (by first | exact rfl | assumption) (by ktr_room) (by ktr_units) ?_
  intro v new h' tk' hR F'
  refine RetP.use hR ?_
  intro C1 t hC1 N'
  clear hR
  dsimp only [List.nil_append] at N'
  have hc1 := clock_len hC1
  k_steps
  unfold Hold
  rename Fr _ _ _ _ => F'
  rename News _ _ _ _ => N'
  refine wpAny_mono (laid_clock w mean mg mb dp un gd cn cs a ccd cl outer base h₀ _ L _ m _ _ _ _ _ _ (PF.people.getD (rest.fmod 12).toNat []) C1 ((rest.fdiv 12).fmod 12) hpl (by omega) _ rfl _ rfl hd hu (by assumption) (by assumption) (by assumption) (by assumption) (in3 F' (by with_unfolding_all rfl) (by with_unfolding_all rfl) (by with_unfolding_all rfl)) N') (fun _ _ q => ClkPost.use q ?_) (fun _ _ h => h.elim)
  intro t9 h9 tk9 F9 N9
  clear F' N'
  dsimp only at F9 ⊢
  k_steps
  unfold Hold
  rename Fr _ _ _ _ => F'
  rename News _ _ _ _ => N'
  refine wpAny_mono (laid_shapes w mean mg mb dp un gd cn cs a ccd cl outer base h₀ _ L _ m _ _ _ _ _ _ _ (PF.people.getD (rest.fmod 12).toNat []) (clockF (PF.people.getD (rest.fmod 12).toNat []) C1 ((rest.fdiv 12).fmod 12)) X1 ((rest.fdiv 12).fmod 12) hpl (clockF_len (by omega)) (by omega) _ rfl _ rfl hd hu (by assumption) (by assumption) (by assumption) (by assumption) (in4 F' (by with_unfolding_all rfl) (by with_unfolding_all rfl) (by with_unfolding_all rfl) (by with_unfolding_all rfl)) N') (fun _ _ q => RetPost.use q ?_) (fun _ _ h => h.elim)
  intro v new m9 h9 tk9 hR F9 N9
  clear F' N'
  dsimp only
  revert N9; refine RetVX.use hR ?_; intro a7 t7 t8 N9
  k_steps
  exact hret _ _ _ _ (RetLaid.mk ⟨(PF.people.getD (rest.fmod 12).toNat []), C1, ((rest.fdiv 12).fmod 12), rfl, .inr ⟨by decide, hpm, by rw [Int.fmod_eq_emod_of_nonneg _ (by decide)]; omega, by rw [Int.fmod_eq_emod_of_nonneg _ (by decide)]; omega⟩, .inr (.inr ⟨by decide, .inl hC1, .inl hX1⟩)⟩) (by assumption) (by first | exact news_keep (by assumption) (fun p hp => by first | exact hp | exact .tail _ hp | exact .tail _ (.tail _ hp) | exact .tail _ (.tail _ (.tail _ hp)) | exact .tail _ (.tail _ (.tail _ (.tail _ hp))) | exact .tail _ (.tail _ (.tail _ (.tail _ (.tail _ hp)))) | exact .tail _ (.tail _ (.tail _ (.tail _ (.tail _ (.tail _ hp)))))) | exact news_sub (by assumption) (fun p hp => by simp only [List.mem_cons, List.cons_append, List.nil_append] at hp ⊢; rcases hp with h | h | h <;> first | exact .inl h | exact .inr (.inl h) | exact .inr (.inr (.inl h)) | exact .inr (.inr (.inr (.inl h))) | exact .inr (.inr (.inr (.inr (.inl h)))) | exact .inr (.inr h) | exact .inr (.inr (.inr h)) | exact .inr (.inr (.inr (.inr h))) | exact .inr (.inr (.inr (.inr (.inr h)))) | exact .inr (.inr (.inr (.inr (.inr (.inr h)))))))
end
section
open _root_.PySem _root_.PySem.W _root_.PySem.NumText
namespace PQ
open PA PJ PK
noncomputable def NL : List UInt8 → Prop
  | [] => True
  | c :: l => (c = 62 → l.head? = some 32 → 10 ∉ l.tail) ∧ NL l
theorem NL.at : ∀ {x p r : List UInt8}, NL x → x = p ++ 62 :: 32 :: r → 10 ∉ r
  | _, [], r, h, e => by subst e; exact h.1 rfl rfl
  | _, c :: p, r, h, e => by subst e; exact NL.at (p := p) h.2 rfl
theorem NL.clean : ∀ {y : List UInt8}, 10 ∉ y → NL y
  | [], _ => trivial
  | c :: l, h => ⟨fun _ _ q => h (.tail _ (List.mem_of_mem_tail q)), NL.clean fun q => h (.tail _ q)⟩
theorem NL.app : ∀ {x y : List UInt8}, NL x → 10 ∉ y → NL (x ++ y)
  | [], y, _, h => NL.clean h
  | c :: l, y, hx, h => ⟨fun h1 h2 q => by
      cases l with
      | nil => exact h (List.mem_of_mem_tail q)
      | cons d l =>
        have h3 := hx.1 h1 h2
        rcases List.mem_append.mp (show 10 ∈ l ++ y from q) with q | q
        · exact h3 q
        · exact h q, NL.app hx.2 h⟩
theorem NL.pre : ∀ {x y : List UInt8}, NL (x ++ y) → NL x
  | [], _, _ => trivial
  | c :: l, y, h => ⟨fun h1 h2 q => by
      cases l with
      | nil => cases q
      | cons d l => exact h.1 h1 h2 (List.mem_append_left _ q), NL.pre h.2⟩
theorem Adj.pre : ∀ {x y : List UInt8}, Adj (x ++ y) → Adj x
  | [], _, _ => trivial
  | [_], _, _ => trivial
  | c :: d :: l, y, h => ⟨h.1, Adj.pre (x := d :: l) (y := y) h.2⟩
noncomputable abbrev Lst (x : List UInt8) : Prop := ∀ c, x.getLast? = some c → ws c = false
noncomputable abbrev Hd (x : List UInt8) : Prop := ∀ c, x.head? = some c → ws c = false
structure Good (W : List UInt8) : Prop where
  n95 : 95 ∉ W
  adj : Adj W
  nl : NL W
  last : Lst W
structure Wd (x : List UInt8) : Prop where
  n95 : 95 ∉ x
  sp : ∀ c ∈ x, ws c = true → c = 32
  adj : Adj x
  hd : Hd x
  last : Lst x
theorem Wd.n10 {x : List UInt8} (h : Wd x) : 10 ∉ x := fun q => by have := h.sp 10 q (by decide); cases this
theorem adj_nows : ∀ {x : List UInt8}, (∀ c ∈ x, ws c = false) → Adj x
  | [], _ => trivial
  | [_], _ => trivial
  | c :: d :: l, h => ⟨fun q => (by rw [h c (.head _)] at q; cases q), adj_nows fun c hc => h c (.tail _ hc)⟩
theorem adj_cons {c : UInt8} {y : List UInt8} (hy : Adj y) (hh : Hd y) : Adj (c :: y) := by
  cases y with
  | nil => trivial
  | cons d y => exact ⟨fun _ q => (by rw [hh d rfl] at q; cases q), hy⟩
theorem adj_sep {x y : List UInt8} {c : UInt8} (hx : Adj x) (hl : Lst x) (hy : Adj y) (hh : Hd y) : Adj (x ++ c :: y) :=
  Adj.app hx (adj_cons hy hh) fun a _ h1 _ h3 _ => by rw [hl a h1] at h3; cases h3
theorem wd_nows {x : List UInt8} (h : ∀ c ∈ x, ws c = false) (h95 : 95 ∉ x) : Wd x :=
  ⟨h95, fun c hc q => (by rw [h c hc] at q; cases q), adj_nows h, fun c hc => h c (List.mem_of_head? hc), fun c hc => h c (List.mem_of_getLast? hc)⟩
theorem ws_sign {c : UInt8} (h : c = 45 ∨ c = 43 ∨ (48 ≤ c.toNat ∧ c.toNat ≤ 57)) : ws c = false := by
  rcases h with rfl | rfl | h
  · decide
  · decide
  · unfold ws blank
    have h1 := h.1
    have h2 := h.2
    generalize c.toNat = n at *
    simp; (first | lia | omega)
theorem wd_sign {x : List UInt8} (h : Sign x) : Wd x := wd_nows (fun c hc => ws_sign (h c hc)) (sign_out h (by decide))
structure One (x : List UInt8) : Prop where
  parts : ∃ u v, Sign u ∧ digs v ∧ (x = u ++ v ∨ ∃ o ∈ PF.odd, x = u ++ o :: v ∧ (o = 32 → v ≠ [] ∧ ∃ u' d, u = u' ++ [d] ∧ 48 ≤ d.toNat ∧ d.toNat ≤ 57))
theorem sign_app {x y : List UInt8} (hx : Sign x) (hy : Sign y) : Sign (x ++ y) := fun c hc => (List.mem_append.mp hc).elim (hx c) (hy c)
theorem sign_digs {x : List UInt8} (h : digs x) : Sign x := fun c hc => .inr (.inr (h c hc))
theorem signs_sign : ∀ s ∈ PF.signs, ∀ c ∈ s, c = 45 ∨ c = 43 := by decide
theorem one_clock {x : List UInt8} (h : ClockOk x) : One x := by
  obtain ⟨s, hs, y, hy, rfl⟩ := h
  have hsg : Sign s := fun c hc => (signs_sign s hs c hc).elim .inl fun h => .inr (.inl h)
  obtain ⟨_, a, b, ha, hb, e | ⟨o, ho, e, h32⟩⟩ := hy
  · exact ⟨s ++ a, b, sign_app hsg (sign_digs ha), hb, .inl (by rw [e, List.append_assoc])⟩
  · refine ⟨s ++ a, b, sign_app hsg (sign_digs ha), hb, .inr ⟨o, ho, by rw [e, List.append_assoc], fun q => ?_⟩⟩
    obtain ⟨h1, h2⟩ := h32 q
    refine ⟨h2, s ++ a.dropLast, a.getLast h1, ?_, ha _ (List.getLast_mem h1)⟩
    rw [List.append_assoc, List.dropLast_concat_getLast]
theorem odd_ws : ∀ o ∈ PF.odd, (ws o = true → o = 32) ∧ o ≠ 95 := by decide
theorem digs_nows {x : List UInt8} (h : digs x) : ∀ c ∈ x, ws c = false := fun c hc => ws_sign (.inr (.inr (h c hc)))
theorem sign_nows {x : List UInt8} (h : Sign x) : ∀ c ∈ x, ws c = false := fun c hc => ws_sign (h c hc)
theorem wd_one {x : List UInt8} (h : One x) : Wd x := by
  obtain ⟨u, v, hu, hv, rfl | ⟨o, ho, rfl, h32⟩⟩ := h.parts
  · exact wd_sign (sign_app hu (sign_digs hv))
  · obtain ⟨ho1, ho2⟩ := odd_ws o ho
    have nu := sign_nows hu
    have nv := digs_nows hv
    have n95u := (wd_sign hu).n95
    have n95v := (wd_sign (sign_digs hv)).n95
    refine ⟨?_, ?_, adj_sep (adj_nows nu) (fun c hc => nu c (List.mem_of_getLast? hc)) (adj_nows nv) (fun c hc => nv c (List.mem_of_head? hc)), ?_, ?_⟩
    · intro q
      rcases List.mem_append.mp q with q | q
      · exact n95u q
      · rcases List.mem_cons.mp q with q | q
        · exact ho2 q.symm
        · exact n95v q
    · intro c hc q
      rcases List.mem_append.mp hc with hc | hc
      · rw [nu c hc] at q; cases q
      · rcases List.mem_cons.mp hc with rfl | hc
        · exact ho1 q
        · rw [nv c hc] at q; cases q
    · intro c hc
      cases u with
      | nil =>
        simp at hc; subst hc
        cases hw : ws o with
        | false => rfl
        | true =>
          obtain ⟨_, u', d, e, _⟩ := h32 (ho1 hw)
          have := congrArg List.length e; simp at this
      | cons d u => simp at hc; subst hc; exact nu _ (.head _)
    · intro c hc
      cases v with
      | nil =>
        rw [List.getLast?_append] at hc; simp at hc; subst hc
        cases hw : ws o with
        | false => rfl
        | true => exact absurd rfl (h32 (ho1 hw)).1
      | cons d v =>
        have : c ∈ d :: v := by
          rw [show u ++ o :: d :: v = (u ++ [o]) ++ (d :: v) by simp, List.getLast?_append] at hc
          cases hl : (d :: v).getLast? with
          | none => simp at hl
          | some e => rw [hl] at hc; simp at hc; subst hc; exact List.mem_of_getLast? hl
        exact nv c this
end PQ
end
section
open _root_.PySem _root_.PySem.W _root_.PySem.NumText
namespace PQ
open PA PJ PK PI
theorem Wd.tidy {x : List UInt8} (h : Wd x) : Tidy x := ⟨h.n95, h.hd, h.last⟩
theorem no_sign {c : UInt8} {l : List UInt8} (h : ¬ (c = 45 ∨ c = 43)) : tzF (c :: l) = zrF (c :: l) := by
  have h1 : tzF (c :: l) = none := if_neg (fun q => by
    have q : c ∈ ([43, 45] : List UInt8) := q
    simp at q; exact h (q.elim .inr .inl))
  have h2 : zrF (c :: l) = none := if_neg (fun q => by
    simp at q; exact h q)
  rw [h1, h2]
theorem text_same {X : List UInt8} (h : One X) : tzF X = zrF X := by
  obtain ⟨u, v, hu, hv, e⟩ := h.parts
  rcases e with rfl | ⟨o, ho, rfl, h32⟩
  · exact PA.zone_same (sign_tidy (sign_drop (sign_app hu (sign_digs hv))))
  · match u, hu, h32 with
    | [], _, _ =>
      by_cases q : o = 45 ∨ o = 43
      · exact PA.zone_same (wd_sign (sign_digs hv)).tidy
      · exact no_sign q
    | [c], hu, h32 =>
      by_cases q : o = 32
      · obtain ⟨_, u', d, e, hd⟩ := h32 q
        have hcd : c = d := by
          cases u' with
          | nil => simp at e; exact e
          | cons a u' => have := congrArg List.length e; simp at this
        subst hcd
        refine no_sign (l := o :: v) ?_
        rintro (rfl | rfl)
        · revert hd; decide
        · revert hd; decide
      · exact PA.zone_same (wd_one (x := o :: v) ⟨[], v, (fun _ h => nomatch h), hv, .inr ⟨o, ho, rfl, fun z => absurd z q⟩⟩).tidy
    | c :: d :: u, hu, h32 =>
      refine PA.zone_same (wd_one (x := (d :: u) ++ o :: v) ⟨d :: u, v, fun z hz => hu z (.tail _ hz), hv, .inr ⟨o, ho, rfl, fun z => ?_⟩⟩).tidy
      obtain ⟨h1, u', d', e, hd⟩ := h32 z
      refine ⟨h1, u'.tail, d', ?_, hd⟩
      cases u' with
      | nil => have := congrArg List.length e; simp at this
      | cons a u' => simp at e; exact e.2
theorem text_same2 {X : List UInt8} (h : One X) : tzF (45 :: X) = zrF (45 :: X) := PA.zone_same (wd_one h).tidy
theorem suffix_in {u v y t : List UInt8} (e : y ++ 32 :: t = u ++ 32 :: v) (h : 32 ∉ v) : ∀ c ∈ v, c ∈ t := by
  rcases List.append_eq_append_iff.mp e with ⟨a, rfl, h2⟩ | ⟨a, rfl, h2⟩
  · cases a with
    | nil => simp at h2; subst h2; exact fun c hc => hc
    | cons d a =>
      simp at h2
      rw [h2.2]
      exact fun c hc => List.mem_append_right _ (.tail _ hc)
  · cases a with
    | nil => simp at h2; subst h2; exact fun c hc => hc
    | cons d a =>
      simp at h2
      exact absurd (by rw [h2.2]; simp) h
theorem fair_ok {y t : List UInt8} (h : Good (y ++ 32 :: t)) (ht : Wd t) : Fair (y ++ 32 :: t) :=
  fair_of h.n95 h.adj (fun p r e => h.nl.at e) fun u v e h32 c hc => by
    have := suffix_in e h32 c hc
    cases hw : ws c with
    | false => rfl
    | true => have := ht.sp c this hw; subst this; exact absurd hc h32
theorem last_app {y t : List UInt8} {c : UInt8} (ht : t ≠ []) : (y ++ c :: t).getLast? = t.getLast? := by
  cases t with
  | nil => exact absurd rfl ht
  | cons d t =>
    rw [show y ++ c :: d :: t = (y ++ [c]) ++ (d :: t) by simp, List.getLast?_append]
    cases h : (d :: t).getLast? with
    | none => simp at h
    | some e => rfl
theorem good_sep {y t : List UInt8} {c : UInt8} (hy : Good y) (ht : Wd t) (hne : t ≠ []) (hc : c ≠ 95) (hc2 : c ≠ 10) : Good (y ++ c :: t) where
  n95 := fun q => (List.mem_append.mp q).elim hy.n95 fun q => (List.mem_cons.mp q).elim (fun q => hc q.symm) ht.n95
  adj := adj_sep hy.adj hy.last ht.adj ht.hd
  nl := hy.nl.app fun q => (List.mem_cons.mp q).elim (fun q => hc2 q.symm) ht.n10
  last := fun d hd => by rw [last_app hne] at hd; exact ht.last d hd
theorem good_app {y t : List UInt8} (hy : Good y) (ht : Wd t) : Good (y ++ t) where
  n95 := fun q => (List.mem_append.mp q).elim hy.n95 ht.n95
  adj := Adj.app hy.adj ht.adj fun a _ h1 _ h3 _ => by rw [hy.last a h1] at h3; cases h3
  nl := hy.nl.app ht.n10
  last := fun d hd => by
    rw [List.getLast?_append] at hd
    cases h : t.getLast? with
    | none => rw [h] at hd; exact hy.last d hd
    | some e => rw [h] at hd; cases hd; exact ht.last d h
theorem good_hb {x : List UInt8} (h : Good x) : ∀ p r a b, PL.lastMark x = some (p, r) → PL.lastSp 32 r = some (a, b) → 1 ≤ b.length := by
  intro p r a b hm hs
  have e1 := PL.lastMark_eq hm
  have e2 := PL.lastSp_eq hs
  cases b with
  | nil =>
    exfalso
    have : x.getLast? = some 32 := by
      rw [e1, e2, show p ++ 62 :: 32 :: (a ++ [32]) = (p ++ 62 :: 32 :: a) ++ [32] by simp, List.getLast?_append]; rfl
    have := h.last _ this
    revert this; decide
  | cons d b => simp
theorem Good.pre {p r : List UInt8} (h : Good (p ++ 62 :: 32 :: r)) : Good (p ++ [62]) := by
  have e : p ++ 62 :: 32 :: r = (p ++ [62]) ++ 32 :: r := by simp
  rw [e] at h
  exact ⟨fun q => h.n95 (List.mem_append_left _ q), Adj.pre h.adj, NL.pre h.nl, fun c hc => by
    rw [List.getLast?_append] at hc; cases hc; decide⟩
noncomputable def goodB (x : List UInt8) : Bool := !x.contains 95 && adjB x && nlB x && (match x.getLast? with | some c => !ws c | none => true)
where
  adjB : List UInt8 → Bool
    | c :: d :: l => (!(ws c) || !(ws d) || c == 10) && adjB (d :: l)
    | _ => true
  nlB : List UInt8 → Bool
    | [] => true
    | c :: l => (!(c == 62 && l.head? == some 32) || !l.tail.contains 10) && nlB l
theorem adjB_ok : ∀ {x : List UInt8}, goodB.adjB x = true → Adj x
  | [], _ => trivial
  | [_], _ => trivial
  | c :: d :: l, h => by
    simp only [goodB.adjB, Bool.and_eq_true, Bool.or_eq_true, Bool.not_eq_true', beq_iff_eq] at h
    refine ⟨fun h1 h2 => ?_, adjB_ok h.2⟩
    rcases h.1 with (h3 | h3) | h3
    · rw [h1] at h3; cases h3
    · rw [h2] at h3; cases h3
    · exact h3
theorem nlB_ok : ∀ {x : List UInt8}, goodB.nlB x = true → NL x
  | [], _ => trivial
  | c :: l, h => by
    simp only [goodB.nlB, Bool.and_eq_true, Bool.or_eq_true, Bool.not_eq_true', Bool.and_eq_false_iff] at h
    refine ⟨fun h1 h2 q => ?_, nlB_ok h.2⟩
    rcases h.1 with (h3 | h3) | h3
    · rw [h1] at h3; simp at h3
    · rw [h2] at h3; simp at h3
    · simp at h3; exact h3 q
theorem goodB_ok {x : List UInt8} (h : goodB x = true) : Good x := by
  unfold goodB at h
  simp only [Bool.and_eq_true, Bool.not_eq_true'] at h
  obtain ⟨⟨⟨h1, h2⟩, h3⟩, h4⟩ := h
  refine ⟨by simpa using h1, adjB_ok h2, nlB_ok h3, fun c hc => ?_⟩
  rw [hc] at h4
  simpa using h4
theorem people_goodB : ∀ y ∈ PF.people, goodB y = true := by decide +kernel
theorem people_good {y : List UInt8} (h : y ∈ PF.people) : Good y := goodB_ok (people_goodB y h)
noncomputable def tidyB (x : List UInt8) : Bool := !x.contains 95 && (match x.head? with | some c => !ws c | none => true) && (match x.getLast? with | some c => !ws c | none => true)
theorem tidyB_ok {x : List UInt8} (h : tidyB x = true) : Tidy x := by
  unfold tidyB at h
  simp only [Bool.and_eq_true, Bool.not_eq_true'] at h
  obtain ⟨⟨h1, h2⟩, h3⟩ := h
  refine ⟨by simpa using h1, fun c hc => ?_, fun c hc => ?_⟩
  · rw [hc] at h2; simpa using h2
  · rw [hc] at h3; simpa using h3
noncomputable def fairB (x : List UInt8) : Bool := match PL.lastMark x with
  | none => true
  | some (_, r) => match PL.lastSp 32 r with
    | none => true
    | some (a, b) => tidyB a && tidyB (b.drop 1)
theorem fairB_ok {x : List UInt8} (h : fairB x = true) : Fair x := by
  intro p r a b hm hs
  unfold fairB at h
  rw [hm] at h
  dsimp only at h
  rw [hs] at h
  simp only [Bool.and_eq_true] at h
  exact ⟨.inl (tidyB_ok h.1), tidyB_ok h.2⟩
theorem people_fairB : ∀ y ∈ PF.people, fairB y = true := by decide +kernel
theorem people_fair {y : List UInt8} (h : y ∈ PF.people) : Fair y := fairB_ok (people_fairB y h)
end PQ
end
section
open _root_.PySem _root_.PySem.W _root_.PySem.NumText
namespace PQ
open PA PJ PK PI PD
noncomputable def DR (M : Nat) (x : List UInt8) : Prop := ∀ u v w, x = u ++ v ++ w → digs v → v.length ≤ M
theorem DR.len {M : Nat} {x : List UInt8} (h : x.length ≤ M) : DR M x := fun u v w e _ => by subst e; simp at h; omega
theorem DR.mono {M N : Nat} {x : List UInt8} (h : DR M x) (hn : M ≤ N) : DR N x := fun u v w e hv => Nat.le_trans (h u v w e hv) hn
theorem DR.inf {M : Nat} {u v w : List UInt8} (h : DR M (u ++ v ++ w)) : DR M v := fun a b c e hb => h (u ++ a) b (c ++ w) (by subst e; simp) hb
theorem DR.app {M K T N : Nat} {x y : List UInt8} (hx : DR M x) (hy : DR K y) (ht : ∀ a b, x = a ++ b → digs b → b.length ≤ T) (h1 : M ≤ N) (h2 : T + K ≤ N) : DR N (x ++ y) := by
  intro u v w e hv
  rw [List.append_assoc] at e
  rcases List.append_eq_append_iff.mp e with ⟨a, rfl, h3⟩ | ⟨a, rfl, h3⟩
  · exact Nat.le_trans (hy a v w (by rw [h3, List.append_assoc]) hv) (Nat.le_trans (Nat.le_add_left _ _) h2)
  · rcases List.append_eq_append_iff.mp h3 with ⟨b, rfl, h4⟩ | ⟨b, rfl, h4⟩
    · exact Nat.le_trans (hx u v b (by simp) hv) h1
    · have e1 := ht u a rfl (fun c hc => hv c (List.mem_append_left _ hc))
      have e2 := hy [] b w (by rw [h4]; simp) (fun c hc => hv c (List.mem_append_right _ hc))
      rw [List.length_append]; exact Nat.le_trans (Nat.add_le_add e1 e2) h2
theorem DR.sep {M : Nat} {x y : List UInt8} {c : UInt8} (hx : DR M x) (hy : DR M y) (hc : ¬ (48 ≤ c.toNat ∧ c.toNat ≤ 57)) : DR M (x ++ c :: y) := by
  have h1 : DR M (x ++ [c]) := by
    intro u v w e hv
    rcases List.eq_nil_or_concat w with rfl | ⟨w', d, rfl⟩
    · rcases List.eq_nil_or_concat v with rfl | ⟨v', d, rfl⟩
      · simp
      · exfalso
        have : c = d := by
          have := congrArg List.getLast? e
          simp at this; exact this
        subst this
        exact hc (hv c (by simp))
    · have : x = u ++ v ++ w' := by
        have := congrArg List.dropLast e
        simpa [← List.append_assoc] using this
      exact hx u v w' this hv
  have := DR.app (T := 0) (N := M) h1 hy (fun a b e hb => by
    rcases List.eq_nil_or_concat b with rfl | ⟨b', d, rfl⟩
    · simp
    · exfalso
      have : c = d := by
        have := congrArg List.getLast? e
        simp at this; exact this
      subst this
      exact hc (hb c (by simp))) (Nat.le_refl _) (by lia)
  simpa using this
noncomputable def isDig (c : UInt8) : Bool := decide (48 ≤ c.toNat) && decide (c.toNat ≤ 57)
theorem tail_le {x a b : List UInt8} (e : x = a ++ b) (h : digs b) : b.length ≤ (x.reverse.takeWhile isDig).length := by
  subst e
  rw [List.reverse_append, List.takeWhile_append_of_pos (fun c hc => by
    have := h c (List.mem_reverse.mp hc)
    unfold isDig; simp [this.1, this.2])]
  simp
theorem people_tail : ∀ y ∈ PF.people, (y.reverse.takeWhile isDig).length ≤ 4 := by decide +kernel
theorem people_short : ∀ y ∈ PF.people, y.length ≤ 20 := by decide
theorem val_lt : ∀ (l : List Nat) (n : Nat), AllDigits l → l.foldl (fun acc c => acc * 10 + (c - 48)) n < (n + 1) * 10 ^ l.length
  | [], n, _ => by simp
  | c :: l, n, h => by
    have hc := h c (.head _)
    have := val_lt l (n * 10 + (c - 48)) fun d hd => h d (.tail _ hd)
    rw [List.foldl_cons, List.length_cons, Nat.pow_succ]
    have h2 : (n * 10 + (c - 48) + 1) * 10 ^ l.length ≤ (n + 1) * 10 * 10 ^ l.length := Nat.mul_le_mul_right _ (by rw [Nat.add_mul, Nat.add_assoc]; exact Nat.add_le_add_left (Nat.succ_le_succ (Nat.sub_le_sub_right hc.2 48)) _)
    calc _ < _ := this
      _ ≤ _ := h2
      _ = _ := by rw [Nat.mul_assoc, Nat.mul_comm 10]
theorem all_digs {y : List UInt8} (h : AllDigits (y.map (·.toNat))) : digs y := fun c hc => h _ (List.mem_map_of_mem hc)
theorem bare_inf (x : List UInt8) : ∃ u, x = u ++ bare x := by
  unfold bare
  split
  · exact ⟨x.take 1, (List.take_append_drop 1 x).symm⟩
  · exact ⟨[], rfl⟩
theorem whole_lt {a : List UInt8} {k : Int} {M : Nat} (h : wholeF a = some k) (hd : DR M a) : k.natAbs < 10 ^ M := by
  rw [wholeF_bare] at h
  split at h
  · cases h
  have e : ((bare a).map fun c => (c.toNat : Int)) = ((bare a).map (·.toNat)).map fun (c : Nat) => (c : Int) := by simp
  by_cases hall : AllDigits ((bare a).map (·.toNat))
  · have hv := whole_digits _ 0 hall
    rw [e] at h
    rw [show ((0 : Nat) : Int) = 0 from rfl] at hv
    rw [hv] at h
    obtain ⟨u, hu⟩ := bare_inf a
    have hlen := hd u (bare a) [] (by rw [List.append_nil]; exact hu) (all_digs hall)
    have h1 := val_lt ((bare a).map (·.toNat)) 0 hall
    rw [List.length_map, Nat.zero_add, Nat.one_mul] at h1
    have h2 : 10 ^ (bare a).length ≤ 10 ^ M := Nat.pow_le_pow_right (by decide) hlen
    simp only [Option.map_some, Option.some.injEq] at h
    have h3 := Nat.lt_of_lt_of_le h1 h2
    rw [← h]
    split
    · rw [Int.natAbs_neg]; exact h3
    · exact h3
  · rw [e, whole_bad _ _ hall] at h; cases h
theorem zv60 (V : Nat) : 60 ∣ V / 100 * 3600 + V % 100 * 60 := Nat.dvd_add (Nat.dvd_trans (by decide) (Nat.dvd_mul_left 3600 _)) (Nat.dvd_mul_left 60 _)
theorem zvlt {V K : Nat} (h : V < K) : V / 100 * 3600 + V % 100 * 60 < 36 * (K * 10) := by
  have h1 : V / 100 * 3600 ≤ V * 36 := by rw [show 3600 = 100 * 36 from rfl, ← Nat.mul_assoc]; exact Nat.mul_le_mul_right 36 (Nat.div_mul_le_self V 100)
  have h2 : V % 100 * 60 ≤ V * 60 := Nat.mul_le_mul_right 60 (Nat.mod_le V 100)
  omega
theorem zone_lt {b : List UInt8} {z : Int × Bool} {M : Nat} (h : zrF b = some z) (hd : DR M b) : z.1.natAbs < 36 * 10 ^ (M + 1) ∧ z.1 % 60 = 0 := by
  unfold zrF at h
  split at h
  · split at h
    · cases h
    have e := figs_map (bare (b.drop 1))
    cases hr : readZ 0 0 (figs (bare (b.drop 1))) with
    | none => rw [hr] at h; cases h
    | some t =>
      rw [hr] at h
      by_cases hall : AllDigits ((bare (b.drop 1)).map (·.toNat))
      · have hall2 : AllDigits (((bare (b.drop 1)).map (·.toNat)).reverse) := fun c hc => hall c (List.mem_reverse.mp hc)
        rw [e, read_all hall2] at hr
        obtain ⟨u, hu⟩ := bare_inf (b.drop 1)
        have hlen := hd (b.take 1 ++ u) (bare (b.drop 1)) [] (by rw [List.append_nil, List.append_assoc, ← hu]; exact (List.take_append_drop 1 b).symm) (all_digs hall)
        have hv := val_rev ((bare (b.drop 1)).map (·.toNat)) 0
        have h1 := val_lt ((bare (b.drop 1)).map (·.toNat)) 0 hall
        rw [hv] at h1
        rw [List.length_map, Nat.zero_add, Nat.one_mul, Nat.zero_mul, Nat.zero_add] at h1
        have h2 : 10 ^ (bare (b.drop 1)).length ≤ 10 ^ M := Nat.pow_le_pow_right (by decide) hlen
        generalize valR ((bare (b.drop 1)).map (·.toNat)).reverse = V at *
        simp only [Option.some.injEq] at hr
        simp only [Option.map_some, Option.some.injEq] at h
        rw [← h, Nat.pow_succ]
        dsimp only
        have hb := zvlt (Nat.lt_of_lt_of_le h1 h2)
        have hd : (60 : Int) ∣ _ := Int.ofNat_dvd.mpr (zv60 V)
        subst hr
        split
        · exact ⟨by rw [Int.natAbs_neg]; exact hb, Int.emod_eq_zero_of_dvd (Int.dvd_neg.mpr hd)⟩
        · exact ⟨hb, Int.emod_eq_zero_of_dvd hd⟩
      · have hall2 : ¬ AllDigits (((bare (b.drop 1)).map (·.toNat)).reverse) := fun q => hall fun c hc => q c (List.mem_reverse.mpr hc)
        rw [e, read_bad _ _ _ hall2] at hr; cases hr
  · cases h
end PQ
end
section
open _root_.PySem _root_.PySem.W _root_.PySem.NumText
namespace PQ
open PA PJ PK PI PD
theorem lz_shape {s : Int} {b : Bool} {x : List UInt8} (h : lzF s b = some x) : x ≠ [] := fun e => by have := lz_len1 h; rw [e] at this; simp at this
where
  lz_len1 {s : Int} {b : Bool} {x : List UInt8} (h : lzF s b = some x) : 1 ≤ x.length := by
    unfold lzF at h
    split at h
    · cases h
    injection h with h
    subst h
    split <;> simp
theorem one_sign {x : List UInt8} (h : Sign x) : One x := ⟨x, [], h, (fun _ h => nomatch h), .inl (by simp)⟩
theorem one_text {X : List UInt8} {s : Int} {c : Bool} (h : ZoneOk X ∨ lzF s c = some X) : One X ∧ X ≠ [] := by
  rcases h with ⟨hne, rfl | h⟩ | h
  · exact ⟨one_sign (by intro c hc; simp at hc; exact .inr (.inl hc)), hne⟩
  · exact ⟨one_clock h, hne⟩
  · exact ⟨one_sign (sign_lz h), lz_shape h⟩
theorem clock_wd {C : List UInt8} {k : Int} (h : ClockOk C ∨ C = decI k) : Wd C := by
  rcases h with h | rfl
  · exact wd_one (one_clock h)
  · exact wd_sign (sign_decI k)
theorem dec_wd0 : Wd [48] := wd_sign (by intro c hc; simp at hc; subst hc; exact .inr (.inr (by decide)))
theorem cut_last {W : List UInt8} (h : BY.cut (some (-1)) none W = [62]) : ∃ p, W = p ++ [62] := by
  unfold BY.cut at h
  simp only [Option.elim] at h
  refine ⟨W.take (clipAt W.length (-1)), ?_⟩
  rw [List.take_of_length_le (by rw [List.length_drop]; lia)] at h
  rw [← h]; exact (List.take_append_drop _ W).symm
theorem mark_cons {c : UInt8} {l : List UInt8} (hc : c ≠ 62) (h : PL.lastMark l = none) : PL.lastMark (c :: l) = none := by
  rw [PL.lastMark_cons, h]
  dsimp only
  rw [if_neg fun q => hc q.1]
theorem mark_free {x : List UInt8} (h : 62 ∉ x ∨ 32 ∉ x) : PL.lastMark x = none := by
  rcases h with h | h
  · exact lastMark_none h
  · cases hm : PL.lastMark x with
    | none => rfl
    | some z =>
      obtain ⟨p, r⟩ := z
      have e := PL.lastMark_eq hm
      exact absurd (by rw [e]; simp) h
theorem mark_at {r : List UInt8} (h : PL.lastMark (32 :: r) = none) : ∀ p : List UInt8, PL.lastMark (p ++ 62 :: 32 :: r) = some (p, r)
  | [] => by
    rw [List.nil_append, PL.lastMark_cons, h]
    dsimp only
    rw [if_pos ⟨rfl, rfl⟩]; rfl
  | c :: p => by rw [List.cons_append, PL.lastMark_cons, mark_at h p]
theorem one_free {X : List UInt8} (h : One X) : 62 ∉ X ∨ 32 ∉ X := by
  obtain ⟨u, v, hu, hv, rfl | ⟨o, ho, rfl, _⟩⟩ := h.parts
  · exact .inl (sign_out (sign_app hu (sign_digs hv)) (by decide))
  · have n1 : ∀ d : UInt8, (d.toNat < 43 ∨ 57 < d.toNat) → d ≠ o → d ∉ u ++ o :: v := fun d hd hne q => by
      rcases List.mem_append.mp q with q | q
      · exact sign_out hu hd q
      · rcases List.mem_cons.mp q with q | q
        · exact hne q
        · exact sign_out (sign_digs hv) hd q
    by_cases q : o = 62
    · subst q; exact .inr (n1 32 (by decide) (by decide))
    · exact .inl (n1 62 (by decide) (fun z => q z.symm))
theorem two_blanks {p X : List UInt8} (hX : One X) (hne : X ≠ []) : Fair (p ++ 62 :: 32 :: 32 :: X) ∧ lrF (p ++ 62 :: 32 :: 32 :: X) = none := by
  have hm : PL.lastMark (p ++ 62 :: 32 :: 32 :: X) = some (p, 32 :: X) := mark_at (mark_cons (by decide) (mark_cons (by decide) (mark_free (one_free hX)))) p
  by_cases h32 : 32 ∈ X
  · obtain ⟨u, v, hu, hv, e | ⟨o, ho, e, hq⟩⟩ := hX.parts
    · exact absurd (e ▸ h32) (sign_out (sign_app hu (sign_digs hv)) (by decide))
    · have ho32 : o = 32 := by
        rw [e] at h32
        rcases List.mem_append.mp h32 with q | q
        · exact absurd q (sign_out hu (by decide))
        · rcases List.mem_cons.mp q with q | q
          · exact q.symm
          · exact absurd q (sign_out (sign_digs hv) (by decide))
      subst ho32
      have hvne := (hq rfl).1
      have hs : PL.lastSp 32 (32 :: X) = some (32 :: u, v) := by
        rw [e]; exact lastSp_app (sign_out (sign_digs hv) (by decide)) (32 :: u)
      have hz : tzF v = none ∧ zrF v = none := by
        cases v with
        | nil => exact absurd rfl hvne
        | cons c v =>
          have hc := hv c (.head _)
          have hns : ¬ (c = 45 ∨ c = 43) := by rintro (rfl | rfl) <;> revert hc <;> decide
          have h1 : tzF (c :: v) = none := if_neg (fun q => by
            have q : c ∈ ([43, 45] : List UInt8) := q
            simp at q; exact hns (q.elim .inr .inl))
          exact ⟨h1, by rw [← no_sign hns]; exact h1⟩
      refine ⟨fun p' r a b h1 h2 => ?_, ?_⟩
      · rw [hm] at h1; cases h1
        rw [hs] at h2; cases h2
        exact ⟨.inr hz, (wd_sign (sign_drop (sign_digs hv))).tidy⟩
      · unfold lrF
        rw [hm]
        dsimp only
        rw [hs]
        dsimp only
        rw [hz.2]
        cases wholeF (32 :: u) <;> rfl
  · have hs : PL.lastSp 32 (32 :: X) = some ([], X) := lastSp_app h32 []
    refine ⟨fun p' r a b h1 h2 => ?_, ?_⟩
    · rw [hm] at h1; cases h1
      rw [hs] at h2; cases h2
      refine ⟨.inl ⟨by simp, (fun _ h => nomatch h), (fun _ h => nomatch h)⟩, ?_⟩
      have hw := wd_one hX
      have hn : ∀ c ∈ X, ws c = false := fun c hc => by
        cases hcw : ws c with
        | false => rfl
        | true => have := hw.sp c hc hcw; subst this; exact absurd hc h32
      exact (wd_nows (fun c hc => hn c (List.mem_of_mem_drop hc)) (fun q => hw.n95 (List.mem_of_mem_drop q))).tidy
    · unfold lrF
      rw [hm]
      dsimp only
      rw [hs]
      rfl
theorem one_blank (p : List UInt8) : Fair (p ++ [62, 32]) ∧ lrF (p ++ [62, 32]) = none ∧ PL.lastMark (p ++ [62, 32]) = some (p, []) := by
  have hm : PL.lastMark (p ++ 62 :: 32 :: []) = some (p, []) := mark_at rfl p
  refine ⟨fun p' r a b h1 h2 => ?_, ?_, hm⟩
  · rw [hm] at h1; cases h1; cases h2
  · unfold lrF; rw [hm]; rfl
theorem dec_dr {k : Int} {M : Nat} (hM : 0 < M) (h : k.natAbs < 10 ^ M) : DR M (decI k) := by
  have hl := dec_len M k.natAbs hM h
  unfold decI
  split
  · exact DR.sep (x := []) (DR.len (by simp)) (DR.len hl) (by decide)
  · exact DR.len hl
theorem lz_dr {s : Int} {c : Bool} {X : List UInt8} {M : Nat} (hM : 24 ≤ M) (hs : s.natAbs < 36 * 10 ^ (M + 1)) (h : lzF s c = some X) : DR (M + 1) X ∧ X.length ≤ M + 5 := by
  unfold lzF at h
  split at h
  · cases h
  injection h with h
  obtain ⟨j, rfl⟩ : ∃ j, M = j + 1 := ⟨M - 1, (Nat.sub_add_cancel (Nat.le_trans (by decide) hM)).symm⟩
  have h1 : (decN (s.natAbs / 3600)).length ≤ j := dec_len j _ (Nat.lt_of_lt_of_le (show 0 < 23 by decide) (Nat.le_of_succ_le_succ hM)) (Nat.div_lt_of_lt_mul (by rw [Nat.pow_succ, Nat.pow_succ, Nat.mul_assoc (10 ^ j), Nat.mul_comm (10 ^ j), ← Nat.mul_assoc] at hs; exact hs))
  have h2 : (pad2 (s.natAbs / 60 % 60)).length ≤ 2 := by
    have h3 : (decN (s.natAbs / 60 % 60)).length ≤ 2 := dec_len 2 _ (by decide) (Nat.lt_trans (Nat.mod_lt _ (show 0 < 60 by decide)) (by decide))
    unfold pad2
    split
    · rename_i q; rw [dec_lt q]; exact Nat.le_refl _
    · exact h3
  have h4 : (pad2 (s.natAbs / 3600)).length ≤ j := by
    unfold pad2
    split
    · rename_i q; rw [dec_lt q]; exact Nat.le_trans (show 2 ≤ 23 by decide) (Nat.le_of_succ_le_succ hM)
    · exact h1
  subst h
  split
  · refine ⟨DR.sep (x := []) (DR.len (by simp)) (DR.sep (x := []) (DR.len (by simp)) (DR.len (by rw [List.length_append]; exact (show _ ≤ j + 2 from Nat.add_le_add h1 h2))) (by decide)) (by decide), ?_⟩
    simp only [List.length_cons, List.length_append]; exact Nat.le_trans (Nat.succ_le_succ (Nat.succ_le_succ (Nat.add_le_add h1 h2))) (Nat.add_le_add_left (show 4 ≤ 6 by decide) j)
  · refine ⟨DR.sep (x := []) (DR.len (by simp)) (DR.len (by rw [List.length_append]; exact (show _ ≤ j + 2 from Nat.add_le_add h4 h2))) (by split <;> decide), ?_⟩
    simp only [List.length_cons, List.length_append]; exact Nat.le_trans (Nat.succ_le_succ (Nat.add_le_add h4 h2)) (Nat.add_le_add_left (show 3 ≤ 6 by decide) j)
end PQ
end
section
open _root_.PySem _root_.PySem.W _root_.PySem.NumText
namespace PQ
open PA PJ PK PI PD
noncomputable abbrev Hb (x : List UInt8) : Prop := ∀ p r a b, PL.lastMark x = some (p, r) → PL.lastSp 32 r = some (a, b) → 1 ≤ b.length
structure Told (N : Nat) (V p : List UInt8) (k : Int) (z : Int × Bool) : Prop where
  good : Good p
  ends : ∃ q, p = q ++ [62]
  dr : DR N p
  when_ : k.natAbs < 10 ^ N
  zone : z.1.natAbs < 36 * 10 ^ (N + 1)
  min60 : z.1 % 60 = 0
  len : p.length ≤ V.length
structure Post (N : Nat) (V : List UInt8) : Prop where
  fair : Fair V
  hb : Hb V
  told : ∀ p k z, lrF V = some (p, some (k, z)) → Told N V p k z
theorem post_good {N : Nat} {V : List UInt8} (hg : Good V) (hf : Fair V) (hd : DR N V) : Post N V := by
  refine ⟨hf, good_hb hg, fun p k z h => ?_⟩
  unfold lrF at h
  cases hm : PL.lastMark V with
  | none => rw [hm] at h; cases h
  | some y =>
    obtain ⟨p0, r⟩ := y
    rw [hm] at h
    dsimp only at h
    cases hs : PL.lastSp 32 r with
    | none => rw [hs] at h; cases h
    | some y =>
      obtain ⟨a, b⟩ := y
      rw [hs] at h
      dsimp only at h
      cases hw : wholeF a with
      | none => rw [hw] at h; cases h
      | some k' =>
        rw [hw] at h
        dsimp only at h
        cases hz : zrF b with
        | none => rw [hz] at h; cases h
        | some z' =>
          rw [hz] at h
          cases h
          have e1 := PL.lastMark_eq hm
          have e2 := PL.lastSp_eq hs
          subst e2
          subst e1
          have d1 : DR N (p0 ++ [62]) := by
            have : p0 ++ 62 :: 32 :: (a ++ 32 :: b) = [] ++ (p0 ++ [62]) ++ (32 :: (a ++ 32 :: b)) := by simp
            rw [this] at hd; exact hd.inf
          have d2 : DR N a := by
            have : p0 ++ 62 :: 32 :: (a ++ 32 :: b) = (p0 ++ [62, 32]) ++ a ++ (32 :: b) := by simp
            rw [this] at hd; exact hd.inf
          have d3 : DR N b := by
            have : p0 ++ 62 :: 32 :: (a ++ 32 :: b) = (p0 ++ 62 :: 32 :: (a ++ [32])) ++ b ++ [] := by simp
            rw [this] at hd; exact hd.inf
          have hz2 := zone_lt hz d3
          exact ⟨hg.pre, ⟨p0, rfl⟩, d1, whole_lt hw d2, hz2.1, hz2.2, by simp⟩
theorem post_none {N : Nat} {V : List UInt8} (hf : Fair V) (hb : Hb V) (h : lrF V = none) : Post N V := ⟨hf, hb, fun p k z q => by rw [h] at q; cases q⟩
theorem hb_two {p X : List UInt8} (hX : One X) (hne : X ≠ []) : Hb (p ++ 62 :: 32 :: 32 :: X) := by
  have hw := wd_one hX
  intro p' r a b hm hs
  have e1 := PL.lastMark_eq hm
  have e2 := PL.lastSp_eq hs
  cases b with
  | nil =>
    exfalso
    have h1 : (p ++ 62 :: 32 :: 32 :: X).getLast? = some 32 := by
      rw [e1, e2, show p' ++ 62 :: 32 :: (a ++ [32]) = (p' ++ 62 :: 32 :: a) ++ [32] by simp, List.getLast?_append]; rfl
    rw [show p ++ 62 :: 32 :: 32 :: X = (p ++ [62, 32]) ++ 32 :: X by simp, last_app hne] at h1
    have := hw.last _ h1
    revert this; decide
  | cons d b => simp
theorem clockF_cases (W C : List UInt8) (sh : Int) : (clockF W C sh ≠ [] ∧ (clockF W C sh = C ∨ clockF W C sh = [48])) ∨ (clockF W C sh = [] ∧ ¬ 1 < sh ∧ ∃ p, W = p ++ [62]) := by
  unfold clockF
  split
  · exact .inl ⟨by simp, .inr rfl⟩
  · rename_i h
    by_cases q : C = []
    · refine .inr ⟨q, fun z => h ⟨q, .inl z⟩, cut_last ?_⟩
      exact Classical.byContradiction fun z => h ⟨q, .inr z⟩
    · exact .inl ⟨q, .inl rfl⟩
theorem people_dr {W : List UInt8} {M : Nat} (h : W ∈ PF.people) (hM : 24 ≤ M) : DR M W := (DR.len (people_short W h)).mono (by omega)
theorem laid_ok {kind when sec : Int} {who V X : List UInt8} {b : Bool} {M : Nat} (h : LaidOk kind who when sec b V X) (hW : Good who) (hD : DR M who) (hM : 24 ≤ M) (hw : when.natAbs < 10 ^ M) (hs : sec.natAbs < 36 * 10 ^ (M + 1)) :
    Post (M + 4) V ∧ One X ∧ X ≠ [] := by
  obtain ⟨W, C, sh, rfl, hk, hcx⟩ := h
  have hX : One X ∧ X ≠ [] := by
    rcases hcx with ⟨_, _, h⟩ | ⟨_, _, h⟩ | ⟨_, _, h⟩
    · exact one_text (s := 0) (c := false) (.inl h)
    · exact one_text (.inr h)
    · exact one_text h
  have hXd : DR (M + 1) X := by
    have hz : ∀ {x}, ZoneOk x → DR (M + 1) x := fun h => (DR.len (zone_len h)).mono (by omega)
    rcases hcx with ⟨_, _, h⟩ | ⟨_, _, h⟩ | ⟨_, _, h | h⟩
    · exact hz h
    · exact (lz_dr hM hs h).1
    · exact hz h
    · exact (lz_dr hM hs h).1
  have hC : ClockOk C ∨ C = decI when := by
    rcases hcx with ⟨_, h, _⟩ | ⟨_, h, _⟩ | ⟨_, h, _⟩
    · exact .inr h
    · exact .inl h
    · exact h
  have hCw := clock_wd hC
  have hCd : DR M C := by
    rcases hC with h | rfl
    · exact (DR.len (clock_len h)).mono hM
    · exact dec_dr (by omega) hw
  have hWg : Good W := by
    rcases hk with ⟨_, rfl, _⟩ | ⟨_, h, _⟩
    · exact hW
    · exact people_good h
  have hWd : DR M W := by
    rcases hk with ⟨_, rfl, _⟩ | ⟨_, h, _⟩
    · exact hD
    · exact people_dr h hM
  have hXw := wd_one hX.1
  refine ⟨?_, hX⟩
  have hXN : DR (M + 4) X := hXd.mono (by omega)
  have hWN : DR (M + 4) W := hWd.mono (by omega)
  have h32 : ¬ (48 ≤ (32 : UInt8).toNat ∧ (32 : UInt8).toNat ≤ 57) := by decide
  rcases clockF_cases W C sh with ⟨hne, hc⟩ | ⟨hce, hsh, p, rfl⟩
  · generalize clockF W C sh = K at *
    have hKw : Wd K := by rcases hc with rfl | rfl; exact hCw; exact dec_wd0
    have hKd : DR M K := by
      rcases hc with rfl | rfl
      · exact hCd
      · exact (DR.len (M := 1) (by simp)).mono (by omega)
    have hKN : DR (M + 4) K := hKd.mono (by omega)
    have g1 : Good (W ++ 32 :: K) := good_sep hWg hKw hne (by decide) (by decide)
    have d1 : DR (M + 4) (W ++ 32 :: K) := hWN.sep hKN h32
    have g2 : Good ((W ++ 32 :: K) ++ 32 :: X) := good_sep g1 hXw hX.2 (by decide) (by decide)
    have d2 : DR (M + 4) ((W ++ 32 :: K) ++ 32 :: X) := d1.sep hXN h32
    unfold layF
    split
    · rw [show W ++ [32] ++ K = W ++ 32 :: K by simp]
      exact post_good g1 (fair_ok g1 hKw) d1
    split
    · rw [show W ++ [32] ++ K ++ [32] ++ X ++ [32] ++ X = ((W ++ 32 :: K) ++ 32 :: X) ++ 32 :: X by simp]
      have g3 := good_sep g2 hXw hX.2 (c := 32) (by decide) (by decide)
      exact post_good g3 (fair_ok g3 hXw) (d2.sep hXN h32)
    split
    · rw [show W ++ [9] ++ K ++ [32] ++ X = (W ++ 9 :: K) ++ 32 :: X by simp]
      have g3 : Good (W ++ 9 :: K) := good_sep hWg hKw hne (by decide) (by decide)
      have g4 := good_sep g3 hXw hX.2 (c := 32) (by decide) (by decide)
      exact post_good g4 (fair_ok g4 hXw) ((hWN.sep hKN (by decide)).sep hXN h32)
    split
    · rename_i h4
      have hp : W ∈ PF.people := by
        rcases hk with ⟨_, _, h⟩ | ⟨_, h, _⟩
        · rw [h] at h4; cases h4
        · exact h
      exact post_good hWg (people_fair hp) hWN
    split
    · rename_i h5
      have hp : W ∈ PF.people := by
        rcases hk with ⟨_, _, h⟩ | ⟨_, h, _⟩
        · rw [h] at h5; cases h5
        · exact h
      rw [show W ++ K ++ [32] ++ X = (W ++ K) ++ 32 :: X by simp]
      have g3 : Good (W ++ K) := good_app hWg hKw
      have g4 := good_sep g3 hXw hX.2 (c := 32) (by decide) (by decide)
      have d3 : DR (M + 4) (W ++ K) := DR.app (T := 4) hWd hKd (fun a b e hb => Nat.le_trans (tail_le e hb) (people_tail W hp)) (by omega) (by lia)
      exact post_good g4 (fair_ok g4 hXw) (d3.sep hXN h32)
    split
    · rw [show W ++ [32] ++ K ++ [32, 43, 32] ++ X = ((W ++ 32 :: K) ++ 32 :: [43]) ++ 32 :: X by simp]
      have w43 : Wd [43] := wd_sign (by intro c hc; simp at hc; exact .inr (.inl hc))
      have g3 := good_sep g1 w43 (by simp) (c := 32) (by decide) (by decide)
      have g4 := good_sep g3 hXw hX.2 (c := 32) (by decide) (by decide)
      exact post_good g4 (fair_ok g4 hXw) ((d1.sep (DR.len (by simp)) h32).sep hXN h32)
    · rw [show W ++ [32] ++ K ++ [32] ++ X = (W ++ 32 :: K) ++ 32 :: X by simp]
      exact post_good g2 (fair_ok g2 hXw) d2
  · rw [hce]
    have h01 : sh = 0 ∨ sh = 1 := by
      rcases hk with ⟨_, _, h⟩ | ⟨_, _, h, _⟩ <;> lia
    unfold layF
    rcases h01 with rfl | rfl
    · rw [if_neg (by decide), if_neg (by decide), if_neg (by decide), if_neg (by decide), if_neg (by decide), if_neg (by decide)]
      rw [show p ++ [62] ++ [32] ++ [] ++ [32] ++ X = p ++ 62 :: 32 :: 32 :: X by simp]
      obtain ⟨h1, h2⟩ := two_blanks (p := p) hX.1 hX.2
      exact post_none h1 (hb_two hX.1 hX.2) h2
    · rw [if_pos rfl, show p ++ [62] ++ [32] ++ [] = p ++ [62, 32] by simp]
      obtain ⟨h1, h2, h3⟩ := one_blank p
      exact post_none h1 (fun p' r a b q1 q2 => by rw [h3] at q1; cases q1; cases q2) h2
theorem clockF_le (W C : List UInt8) (sh : Int) {n : Nat} (h : C.length ≤ n) (hn : 1 ≤ n) : (clockF W C sh).length ≤ n := by
  unfold clockF; split
  · exact hn
  · exact h
theorem laid_len {kind when sec : Int} {who V X : List UInt8} {b : Bool} {M : Nat} (h : LaidOk kind who when sec b V X) (hM : 24 ≤ M) (hM2 : M ≤ 44) (hw : when.natAbs < 10 ^ M) (hs : sec.natAbs < 36 * 10 ^ (M + 1)) :
    (V.length ≤ who.length + 80 ∨ V.length ≤ 170) ∧ X.length ≤ 49 := by
  obtain ⟨W, C, sh, rfl, hk, hcx⟩ := h
  have hd : (decI when).length ≤ 45 := by
    have := dec_len M when.natAbs (by omega) hw
    unfold decI; split
    · simp only [List.length_cons]; omega
    · omega
  rcases hcx with ⟨h4, rfl, h⟩ | ⟨h5, h, h'⟩ | ⟨h6, h, h'⟩
  · have hx := zone_len h
    refine ⟨.inl ?_, by omega⟩
    rcases hk with ⟨_, rfl, rfl⟩ | ⟨q, _⟩
    · have := clockF_le W (decI when) 0 hd (by decide)
      unfold layF
      simp only [show ¬ (0 : Int) = 1 by decide, show ¬ (0 : Int) = 2 by decide, show ¬ (0 : Int) = 3 by decide, show ¬ (0 : Int) = 4 by decide, show ¬ (0 : Int) = 5 by decide, show ¬ (0 : Int) = 6 by decide, if_false, List.length_append, List.length_cons, List.length_nil]
      lia
    · omega
  · have hx := (lz_dr hM hs h').2
    have hc := clock_len h
    refine ⟨.inl ?_, by lia⟩
    rcases hk with ⟨_, rfl, rfl⟩ | ⟨q, _⟩
    · have := clockF_le W C 0 hc (by decide)
      unfold layF
      simp only [show ¬ (0 : Int) = 1 by decide, show ¬ (0 : Int) = 2 by decide, show ¬ (0 : Int) = 3 by decide, show ¬ (0 : Int) = 4 by decide, show ¬ (0 : Int) = 5 by decide, show ¬ (0 : Int) = 6 by decide, if_false, List.length_append, List.length_cons, List.length_nil]
      lia
    · omega
  · have hx : X.length ≤ 49 := by
      rcases h' with h' | h'
      · have := zone_len h'; omega
      · have := (lz_dr hM hs h').2; omega
    have hc : C.length ≤ 45 := by
      rcases h with h | rfl
      · have := clock_len h; omega
      · exact hd
    refine ⟨.inr ?_, by omega⟩
    rcases hk with ⟨q, _⟩ | ⟨_, hp, _⟩
    · omega
    · have hp := people_short W hp
      have := clockF_le W C sh hc (by decide)
      unfold layF
      split <;> try split <;> try split <;> try split <;> try split <;> try split
      all_goals first | lia | (simp only [List.length_append, List.length_cons, List.length_nil]; lia)
end PQ
end
section
open _root_.PySem _root_.PySem.W _root_.PySem.NumText
namespace PQ
open PA PJ PK PI PD
structure Inv (n : Nat) (ln who : List UInt8) (when s : Int) (f : Bool) : Prop where
  told : ltF ln = some (who, some (when, (s, f)))
  hb : Hb ln
  len : ln.length ≤ 600
  good : Good who
  ends : ∃ q, who = q ++ [62]
  wlen : who.length ≤ 90 + 80 * n
  dr : DR (24 + 4 * n) who
  when_ : when.natAbs < 10 ^ (24 + 4 * n)
  zone : s.natAbs < 36 * 10 ^ (24 + 4 * n + 1)
  min60 : s % 60 = 0
theorem pow_le {a b : Nat} (h : a ≤ b) : 10 ^ a ≤ 10 ^ b := Nat.pow_le_pow_right (by decide) h
theorem Inv.when60 {n : Nat} {ln who : List UInt8} {when s : Int} {f : Bool} (h : Inv n ln who when s f) (hn : n ≤ 6) : when.natAbs < 10 ^ 50 := Nat.lt_of_lt_of_le h.when_ (pow_le (Nat.le_trans (Nat.add_le_add_left (Nat.mul_le_mul_left 4 hn) 24) (by decide)))
theorem Inv.zone60 {n : Nat} {ln who : List UInt8} {when s : Int} {f : Bool} (h : Inv n ln who when s f) (hn : n ≤ 6) : s.natAbs < 10 ^ 53 := by
  have := h.zone
  have h2 : 10 ^ (24 + 4 * n + 1) ≤ 10 ^ 51 := pow_le (Nat.succ_le_succ (Nat.le_trans (Nat.add_le_add_left (Nat.mul_le_mul_left 4 hn) 24) (by decide)))
  exact Nat.lt_of_lt_of_le this (Nat.le_trans (Nat.mul_le_mul_left 36 h2) (by decide))
theorem grow {k w a b : Nat} (h : k ≤ w + a) (h1 : w < b) (h2 : a ≤ b) : k < b * 10000 :=
  Nat.lt_of_le_of_lt h (Nat.lt_of_lt_of_le (Nat.add_lt_add_of_lt_of_le h1 h2) (by rw [← Nat.mul_two]; exact Nat.mul_le_mul_left b (by decide)))
theorem made_good {who z : List UInt8} {k s : Int} {b : Bool} (hg : Good who) (h : lzF s b = some z) : Good (who ++ 32 :: (decI k ++ 32 :: z)) ∧ Fair (who ++ 32 :: (decI k ++ 32 :: z)) := by
  have wd := wd_sign (sign_decI k)
  have wz := wd_sign (sign_lz h)
  have hne : decI k ≠ [] := by
    unfold decI; split
    · simp
    · exact dec_ne _
  have e : who ++ 32 :: (decI k ++ 32 :: z) = (who ++ 32 :: decI k) ++ 32 :: z := by simp
  rw [e]
  have g1 : Good (who ++ 32 :: decI k) := good_sep hg wd hne (by decide) (by decide)
  have g2 := good_sep g1 wz (lz_shape h) (c := 32) (by decide) (by decide)
  exact ⟨g2, fair_ok g2 wz⟩
theorem laid_600 {n V w : Nat} (hn : n ≤ 5) (hw : w ≤ 90 + 80 * n) (h : V ≤ w + 80 ∨ V ≤ 170) : V ≤ 600 :=
  h.elim (fun q => Nat.le_trans q (Nat.le_trans (Nat.add_le_add_right (Nat.le_trans hw (Nat.add_le_add_left (Nat.mul_le_mul_left 80 hn) 90)) 80) (by decide))) fun q => Nat.le_trans q (by decide)
section
variable {n : Nat} {ln who : List UInt8} {when s : Int} {f : Bool} (hI : Inv n ln who when s f) (hn : n ≤ 5)
include hI hn
theorem moved_person {w' : List UInt8} (hw : w' = who ∨ w' ∈ PF.people) : Good w' ∧ w'.length ≤ 90 + 80 * n ∧ DR (24 + 4 * n) w' := by
  rcases hw with rfl | h
  · exact ⟨hI.good, hI.wlen, hI.dr⟩
  · have := people_short w' h
    exact ⟨people_good h, Nat.le_trans this (Nat.le_trans (by decide) (Nat.le_add_right 90 _)), people_dr h (Nat.le_trans (by decide) (Nat.le_add_right 24 _))⟩
theorem moved_when {k : Int} (hk : k.natAbs ≤ when.natAbs + 10 ^ 20) : k.natAbs < 10 ^ (24 + 4 * (n + 1)) := by
  have h1 := hI.when_
  have h2 : 10 ^ 24 ≤ 10 ^ (24 + 4 * n) := pow_le (Nat.le_add_right _ _)
  have e : 10 ^ (24 + 4 * (n + 1)) = 10 ^ (24 + 4 * n) * 10000 := by rw [show 24 + 4 * (n + 1) = 24 + 4 * n + 4 from rfl, Nat.pow_add]
  rw [e]; exact grow hk h1 (Nat.le_trans (by decide) h2)
theorem moved_zone {s' : Int} (hs : s'.natAbs ≤ s.natAbs + 10 ^ 22) : s'.natAbs < 36 * 10 ^ (24 + 4 * (n + 1) + 1) := by
  have h1 := hI.zone
  have h2 : 10 ^ 24 ≤ 10 ^ (24 + 4 * n + 1) := pow_le (Nat.le_succ_of_le (Nat.le_add_right _ _))
  have e : 10 ^ (24 + 4 * (n + 1) + 1) = 10 ^ (24 + 4 * n + 1) * 10000 := by rw [show 24 + 4 * (n + 1) + 1 = (24 + 4 * n + 1) + 4 from rfl, Nat.pow_add]
  rw [e, ← Nat.mul_assoc]; exact grow hs h1 (Nat.le_trans (Nat.le_trans (by decide) h2) (Nat.le_mul_of_pos_left _ (by decide)))
theorem moved_len {w' z : List UInt8} {k s' : Int} {b : Bool} (hw : w' = who ∨ w' ∈ PF.people) (hk : k.natAbs ≤ when.natAbs + 10 ^ 20) (hs : s'.natAbs ≤ s.natAbs + 10 ^ 22) (h : lzF s' b = some z) : (w' ++ 32 :: (decI k ++ 32 :: z)).length ≤ 600 := by
  have h1 := (moved_person hI hn hw).2.1
  have h2 := moved_when hI hn hk
  have h3 := (lz_dr (M := 24 + 4 * (n + 1)) (Nat.le_add_right _ _) (moved_zone hI hn hs) h).2
  have h4 : (decI k).length ≤ 24 + 4 * (n + 1) + 1 := by
    have := dec_len _ k.natAbs (Nat.lt_of_lt_of_le (by decide) (Nat.le_add_right 24 _)) h2
    unfold decI; split
    · exact Nat.succ_le_succ this
    · exact Nat.le_succ_of_le this
  have b4 : 24 + 4 * (n + 1) ≤ 48 := Nat.add_le_add_left (Nat.mul_le_mul_left 4 (Nat.succ_le_succ hn)) 24
  simp only [List.length_append, List.length_cons]
  exact om1 (Nat.add_le_add (Nat.le_trans h1 (Nat.add_le_add_left (Nat.mul_le_mul_left 80 hn) 90)) (Nat.succ_le_succ (Nat.add_le_add (Nat.le_trans h4 (Nat.succ_le_succ b4)) (Nat.succ_le_succ (Nat.le_trans h3 (Nat.add_le_add_right b4 5)))))) rfl
theorem inv_moved {q z : List UInt8} {k s' : Int} {b : Bool} (hw : q ++ [62] = who ∨ q ++ [62] ∈ PF.people) (hk : k.natAbs ≤ when.natAbs + 10 ^ 20) (hs : s'.natAbs ≤ s.natAbs + 10 ^ 22) (h : lzF s' b = some z) :
    Inv (n + 1) ((q ++ [62]) ++ 32 :: (decI k ++ 32 :: z)) (q ++ [62]) k s' (b && decide (0 ≤ s')) := by
  obtain ⟨h1, h2, h3⟩ := moved_person hI hn hw
  refine ⟨made_told h, good_hb (made_good h1 h).1, moved_len hI hn hw hk hs h, h1, ⟨q, rfl⟩, Nat.le_trans h2 (Nat.add_le_add_left (Nat.mul_le_mul_left 80 (Nat.le_succ n)) 90), h3.mono (Nat.add_le_add_left (Nat.mul_le_mul_left 4 (Nat.le_succ n)) 24), moved_when hI hn hk, moved_zone hI hn hs, ?_⟩
  unfold lzF at h
  split at h
  · cases h
  · rename_i q; exact Classical.not_not.mp q
theorem laid_all {kind : Int} {V X : List UInt8} (h : LaidOk kind who when s f V X) : Fair V ∧ Hb V ∧ One X ∧ X ≠ [] ∧ V.length ≤ 600 ∧ X.length ≤ 49 := by
  obtain ⟨h1, h2, h3⟩ := laid_ok h hI.good hI.dr (Nat.le_add_right 24 _) hI.when_ hI.zone
  obtain ⟨h4, h5⟩ := laid_len h (Nat.le_add_right 24 _) (Nat.add_le_add_left (Nat.mul_le_mul_left 4 hn) 24) hI.when_ hI.zone
  have := hI.wlen
  exact ⟨h1.fair, h1.hb, h2, h3, laid_600 hn this h4, h5⟩
theorem inv_laid {kind : Int} {V X p : List UInt8} {k : Int} {z : Int × Bool} (h : LaidOk kind who when s f V X) (hr : lrF V = some (p, some (k, z))) : Inv (n + 1) V p k z.1 z.2 := by
  obtain ⟨h1, _, _⟩ := laid_ok h hI.good hI.dr (Nat.le_add_right 24 _) hI.when_ hI.zone
  obtain ⟨h4, _⟩ := laid_len h (Nat.le_add_right 24 _) (Nat.add_le_add_left (Nat.mul_le_mul_left 4 hn) 24) hI.when_ hI.zone
  have hw := hI.wlen
  have t := h1.told p k z hr
  have e : 24 + 4 * n + 4 = 24 + 4 * (n + 1) := rfl
  have tl := t.len
  exact ⟨by rw [line_same h1.fair, hr], h1.hb, laid_600 hn hw h4, t.good, t.ends, h4.elim (fun q => Nat.le_trans tl (Nat.le_trans q (Nat.add_le_add_right hw 80))) (fun q => Nat.le_trans tl (Nat.le_trans q (Nat.add_le_add_left (Nat.mul_le_mul_left 80 (Nat.le_add_left 1 n)) 90))), e ▸ t.dr, e ▸ t.when_, e ▸ t.zone, t.min60⟩
end
theorem lz_zero : lzF 0 false = some [43, 48, 48, 48, 48] := by
  unfold lzF
  rw [if_neg (by decide), if_neg (by decide), if_neg (by decide)]
  simp only [pad2]
  rw [if_pos (by decide), if_pos (by decide), dec_lt (by decide), dec_lt (by decide)]
  rfl
theorem inv_start : Inv 0 [65, 32, 60, 97, 64, 98, 62, 32, 48, 32, 43, 48, 48, 48, 48] [65, 32, 60, 97, 64, 98, 62] 0 0 false := by
  have e0 : decI 0 = [48] := by unfold decI; rw [if_neg (by decide)]; exact dec_lt (by decide)
  have hm := made_told (p := [65, 32, 60, 97, 64, 98]) (k := 0) lz_zero
  rw [e0] at hm
  have hg : Good [65, 32, 60, 97, 64, 98, 62] := goodB_ok (by decide +kernel)
  have hb := good_hb (made_good (who := [65, 32, 60, 97, 64, 98, 62]) (k := 0) hg lz_zero).1
  rw [e0] at hb
  exact ⟨hm, hb, by decide, hg, ⟨[65, 32, 60, 97, 64, 98], rfl⟩, by decide, (DR.len (M := 7) (by decide)).mono (by decide), by decide, by decide, by decide⟩
end PQ
end
section
open _root_.PySem _root_.PySem.W _root_.PySem.Spec _root_.PySem.Calls _root_.PyProof.Rows
theorem told_CT : True := by
  k_with_none
  w_top off
  k_with "own omega" => (with_reducible first | exact om6 (by assumption) rfl | exact om0 (by assumption) | exact om2 (by assumption) rfl | exact om3 (by assumption) rfl | exact om4 (by assumption) rfl | exact Int.emod_nonneg _ (by decide) | exact Int.emod_lt_of_pos _ (by decide) | exact om8 (by assumption) rfl | exact om9 (by assumption) rfl)
  k_with "storeName" => ((k_here; k_dflt (first | ((with_reducible show wpAny _ _ (storeName _ _ (Value.int _ _)) _ _ _); refine storeG_int (by k_asm) (by k_asm) ?_ (by rfl) (by rfl); intro hq9 tq9 kq9 Fq9 Nq9) | ((with_reducible show wpAny _ _ (storeName _ _ (Value.bytes _ _)) _ _ _); refine storeG_bytes (by k_asm) (by k_asm) ?_ (by rfl) (by rfl); intro hq9 tq9 kq9 Fq9 Nq9) | (refine storeG_any (by k_asm) (by k_asm) ?_ (by rfl) (by rfl); intro hq9 kq9 Fq9 Nq9)); (try k_sweep)))
  k_with "Go" => (refine go_on (by assumption) ?_)
  k_with "own kby_size" => ((first | assumption | omega | (simp only [List.length_append, List.length_cons, List.length_nil] at *; omega)))
  k_with "subscriptTail" => ((k_here; (with_reducible show wpAny _ _ (subscriptTail _ (Expr.Slice _ _ none _) (Value.bytes (List.toArray _) _) (Value.ref _)) _ _ _); (with_reducible rename Fr _ _ _ _ => Fq9); (with_reducible rename News _ _ _ _ => Nq9); (refine BY.slice_L (s := ⟨_, _, _, _, _⟩) Fq9 Nq9 (by constructor) (by constructor) (by kby_size) ?_); intro _ _ _ Fq9 Nq9 hlenq9))
  k_with "binaryOp Add bytes bytes" => ((k_here; (with_reducible show wpAny _ _ (binaryOp Operator.Add (Value.bytes (List.toArray _) _) (Value.bytes (List.toArray _) _)) _ _ _); (refine BY.add_L (by kby_size) ?_); intro _ _))
  k_with "compareOp Eq bytes bytes" => ((k_here; (with_reducible show wpAny _ _ (compareOp CmpOp.Eq (Value.bytes (List.toArray _) _) (Value.bytes (List.toArray _) _)) _ _ _); (refine BY.eq_L ?_)))
  k_with "compareOp NotEq bytes bytes" => ((k_here; (with_reducible show wpAny _ _ (compareOp CmpOp.NotEq (Value.bytes (List.toArray _) _) (Value.bytes (List.toArray _) _)) _ _ _); (refine BY.ne_L ?_)))
  k_with "subscriptTail" => ((k_here; (with_reducible show wpAny _ _ (subscriptTail _ _ (Value.bytes (List.toArray _) _) (Value.int _ _)) _ _ _); (refine BY.item_L (by kby_size) (by first | decide | omega) (by first | omega | (simp only [List.length_append, List.length_cons, List.length_nil] at *; omega)) ?_); intro _ _))
  k_with "compareOp NotIn int bytes" => ((k_here; (with_reducible show wpAny _ _ (compareOp CmpOp.NotIn (Value.int _ _) (Value.bytes (List.toArray _) _)) _ _ _); (refine BY.notIn_B ?_)))
  k_with "call type:int" => ((k_here; (with_reducible show wpAny _ _ (call (Value.type "int") [Value.bytes (List.toArray _) _]) _ _ _); (refine IR.call_int_bytes (by assumption) (by assumption) ?_)))
  k_with "getMethod bytes" => ((k_here; first | (with_reducible refine BW.meth_rindex ?_) | (with_reducible refine BW.meth_rsplit ?_) | (with_reducible refine BW.meth_split ?_) | (with_reducible refine BW.meth_join ?_)))
  k_with "call builtin:bytes.rindex" => ((k_here; first
  | (refine BW.rindex_found (by with_reducible assumption) ?_; intro _ _)
  | (refine BW.rindex_not (by with_reducible assumption) (by first | exact rfl | assumption) ?_; intro _ _ _ _ hxq9)))
  k_with "call builtin:bytes.rsplit" => ((k_here; first
  | (refine BW.rsplit_two (by k_asm) (by k_asm) (by kby_size) (by with_reducible assumption) ?_; intro Dq9 t1q9 t2q9 hq9 kq9 Fq9 Nq9 l1q9; (try k_lt l1q9))
  | (refine BW.rsplit_one (by k_asm) (by k_asm) (by kby_size) (by with_reducible assumption) ?_; intro Dq9 t1q9 hq9 kq9 Fq9 Nq9 l1q9; (try k_lt l1q9))))
  k_with "call builtin:bytes.split" => ((k_here; (refine BW.split_L (by k_asm) (by k_asm) (by kby_size) ?_); intro Dq9 vsq9 hq9 kq9 hvsq9 Fq9 Nq9 l1q9; (try k_lt l1q9)))
  k_with "call builtin:bytes.join" => ((k_here; (refine BW.join_L (News.isList (by k_asm) (by k_mem)) (by with_reducible assumption) (by kby_size) ?_); intro _ _))
  k_with "assign Tuple" => ((k_here; (with_reducible show wpAny _ _ (assign (Expr.Tuple _ _ _) _ (Value.ref _)) _ _ _); (refine BW.unpack_one (News.isList (by k_asm) (by k_mem)) (by exact rfl) (by exact rfl) (by exact rfl) ?_); intro _ _ _ _ hxq9))
  k_with "subscriptTail" => ((k_here; (with_reducible show wpAny _ _ (subscriptTail _ _ (Value.ref _) (Value.int _ _)) _ _ _); (refine BW.item_BL (News.isList (by k_asm) (by k_mem)) (by with_reducible assumption) (by first | assumption | omega) (by first | assumption | omega) (by first | assumption | omega) ?_); intro _))
  k_with "noteFrame ref" => ((k_here; k_dflt ((with_reducible rename Heap.MadeExc _ _ _ _ _ => hxMq9); (refine look_made2 (Heap.MadeExc.of hxMq9) (by k_asm) (by k_asm) (by assumption) ?_); clear hxMq9; intro hq9 tq9 Gq9 Fq9 Rq9 alq9 Uq9; (try dsimp only at Rq9 Uq9 ⊢))))
  k_with "leaving ref" => ((k_here; k_dflt ((with_reducible rename KtsDicts _ _ => kdX); (with_reducible rename Heap.MadeExc _ _ _ _ _ => hxMq9); (refine leave_raise2 (by assumption) (Heap.MadeExc.of hxMq9) (by assumption) (by k_asm) ?_); intro hq9 tq9 Sq9 alq9 Uq9; (have Rq9 := RaisedS.toK Sq9); (try dsimp only at Sq9 Rq9 Uq9 ⊢))))
  k_with "noteFrame ref" => ((k_here; k_dflt ((rename RaisedS _ _ _ _ _ _ _ _ _ => rsX); (with_reducible rename Alone _ _ => alX); (with_reducible show wpAny _ _ (noteFrame _ _) (fun _ s₂ => wpAny _ _ (setFlight _ none) (fun _ s₃ => wpAny _ _ (handleBy _ _ [ExceptHandler.ExceptHandler _ (some _) [Stmt.Raise (some _) (some _) _] _]) _ _ s₃) _ s₂) _ _); (refine look_on2 rsX alX (by assumption) (by assumption) ?_); intro hq9 Rq9 alq9 Uq9; (try dsimp only at Rq9 Uq9 ⊢))))
  k_with "handleBy ref" => ((k_here; k_dflt ((with_reducible rename Alone _ _ => alX); (refine hit2 (by assumption) alX (by assumption) (by assumption) (by assumption) (by assumption) (by assumption) (by assumption) (by kts_test) PySem.F.excBase_Exception PySem.F.excRaise_ValueError (by k_is) (by k_exc) ?_ (fun _ _ hh => hh)); intro hq9 tkq9 e2q9 t2q9 Rq9 RKq9 Uq9; (try dsimp only at Rq9 RKq9 Uq9 ⊢))))
  k_with "getMethod str" => ((k_here; (with_reducible refine BE.meth_encode ?_)))
  k_with "binaryOp Mod str ref" => ((k_here; (with_reducible show wpAny _ _ (binaryOp Operator.Mod (Value.str _ _) (Value.ref _)) _ _ _); k_dflt ((refine BF.fmt_rule (by k_asm) (by k_mem) (by decide +kernel) (by first | exact PG.fd1 (by omega) | exact PG.fd2 (by omega)) PG.fd3 ?_); intro _ _)))
  k_with "call builtin:str.encode" => ((k_here; k_dflt ((refine BE.encode (BF.ascii_fmt _ _ (by decide +kernel)) (BF.size_fmt (by decide +kernel) (by first | exact PG.fd1 (by omega) | exact PG.fd2 (by omega)) PG.fd3) ?_); intro _ _)))
  k_with "call type:str" => ((k_here; k_dflt (refine P.str_of_int (BF.log_lt (by omega)) ?_)))
  k_with "call builtin:str.encode" => ((k_here; k_dflt ((refine BE.encode (BF.ascii_int _) (PH.size_int (by omega)) ?_); intro _ _)))
  k_with "call builtin:bytes.join" => ((k_here; k_dflt ((refine BW.join_L (News.isList (by k_asm) (by k_mem)) (bytesAre_cons (bytesAre_cons (bytesAre_cons bytesAre_nil))) (PH.join3 (by assumption) (Nat.le_trans (PH.octs_int_len (by omega)) (by decide)) (Nat.le_trans (PH.octs_fmt_len (by decide +kernel) (by first | exact PG.fd1 (by omega) | exact PG.fd2 (by omega)) PG.fd3) (by decide))) ?_); intro _ _)))
  k_with "subscriptTail" => ((k_here; (with_reducible show wpAny _ _ (subscriptTail _ (PySem.Expr.Slice _ _ none _) (Value.ref _) (Value.ref _)) _ _ _); k_dflt (first
  | (refine BS.slice_from (by k_asm) (by k_asm) (News.isList (by k_asm) (by k_mem)) (by with_reducible assumption) (by constructor) (by constructor) (by omega) (by (try simp only [List.length_drop, List.length_take]); omega) ?_)
  | (refine BS.slice_upto (by k_asm) (by k_asm) (News.isList (by k_asm) (by k_mem)) (by with_reducible assumption) (by constructor) (by constructor) (by omega) (by (try simp only [List.length_drop, List.length_take]); omega) ?_)
  | (refine BS.slice_less (by k_asm) (by k_asm) (News.isList (by k_asm) (by k_mem)) (by with_reducible assumption) (by constructor) (by constructor) (by (try simp only [List.length_drop, List.length_take]); omega) ?_)); intro Dq9 wsq9 hq9 hvsq9 Fq9 Nq9 l1q9; (try k_lt l1q9)))
  k_with "subscriptTail" => ((k_here; (with_reducible show wpAny _ _ (subscriptTail _ _ (Value.ref _) (Value.int (-1) _)) _ _ _); (refine BS.item_last (News.isList (by k_asm) (by k_mem)) (by with_reducible assumption) (by first | assumption | omega) (by first | assumption | omega) ?_); intro _))
  k_with "call builtin:len" => ((k_here; (with_reducible show wpAny _ _ (call (Value.builtin "len") [Value.ref _]) _ _ _); (refine BS.len_B (News.isList (by k_asm) (by k_mem)) (by with_reducible assumption) (by (try simp only [List.length_drop, List.length_take]); omega) ?_); intro _ _))
  k_with "call builtin:divmod" => ((k_here; (with_reducible show wpAny _ _ (call (Value.builtin _) [Value.int _ _, Value.int _ _]) _ _ _); (refine divmod_K (by k_asm) (by k_asm) (by first | assumption | omega) (by assumption) ?_); intro Dq9 hq9 _ _ _ Fq9 Nq9 l1q9; (try k_lt l1q9)))
  trivial
set_option maxHeartbeats 1000000 in
theorem zone_made_good (w : World) (mean : ExcName → Option Value) (mg mb : Str → Option Value) (n : Int) (tn : Tok) (hb : n.natAbs < 10 ^ 60) (h60 : n.fmod 60 = 0) (b : Bool) (hp : b = true → PF.plainF n = true) :
    Con w mean mg mb 2 180 [.int n tn, .bool b] (RetB (lzF n b)) := by
  unfold Con
  k_fill
  intro dp un gd cn cs a ccd cl outer A₀ base h₀ L m news s Q E B F X N T hk hd hu hret
  refine wpAny_call ?_
  w_strict (k_dflt cell_enter; k_steps)
  refine con_use (format_good w mean mg mb n _ hb h60 b hp) (by k_asm) (by k_asm) (by k_asm) (by k_asm) (by k_asm) (by first | exact rfl | assumption) (by ktr_room) (by ktr_units) ?_
  intro v new h' tk' hR F' N'
  have e : ∃ z, lzF n b = some z := by unfold lzF; rw [if_neg (by rw [Int.fmod_eq_emod_of_nonneg _ (by decide)] at h60; omega)]; exact ⟨_, rfl⟩
  obtain ⟨z, hz⟩ := e
  rw [hz] at hR hret
  obtain ⟨t, rfl, rfl⟩ := hR
  dsimp only [List.nil_append] at N'
  k_steps
  exact end0 hret (by assumption) (by (first | (first | (with_reducible assumption) | (refine kst_newsOf (by with_reducible assumption) (fun p hp => ?_); simp only [List.mem_cons, List.mem_append, List.cons_append, List.nil_append, hp, or_true, true_or])) | (first | (assumption) | (apply news_tail; assumption) | (apply news_tail; apply news_tail; assumption) | (apply news_tail; apply news_tail; apply news_tail; assumption) | (apply news_tail; apply news_tail; apply news_tail; apply news_tail; assumption) | (apply news_tail; apply news_tail; apply news_tail; apply news_tail; apply news_tail; assumption)))) ⟨_, rfl, rfl⟩
end
section
open _root_.PySem _root_.PySem.W _root_.PySem.Spec _root_.PySem.Calls _root_.PyProof.Rows
theorem told_CU : True := by
  w_top off
  trivial
theorem told_CU_25 : True := by
  k_with "eval Call" => ((k_here; (with_reducible show wpAny _ _ (eval (PySem.Expr.Call (PySem.Expr.Name _ _) _ _ _) _) _ _ _); refine Call_ ?_))
  k_with "call ref" => ((k_here; (with_reducible show wpAny _ _ (call (Value.ref 131) _) _ _ _); k_dflt ((refine con_val (plain_con _ _ _ _ _ _) (by k_asm) (by k_asm) (by k_asm) (by k_asm) (by k_asm) (by first | exact rfl | assumption) (by ktr_room) (by ktr_units) ?_); intro hq9 tkq9 Fq9 Nq9)))
  k_with "call ref" => ((k_here; (with_reducible show wpAny _ _ (call (Value.ref 138) _) _ _ _); refine hold ?_))
  k_with "call ref" => ((k_here; (with_reducible show wpAny _ _ (call (Value.ref 180) _) _ _ _); refine hold ?_))
  k_with "call ref" => ((k_here; (with_reducible show wpAny _ _ (call (Value.ref 166) _) _ _ _); refine hold ?_))
  k_with "compareOp Eq ref ref" => ((k_here; (with_reducible show wpAny _ _ (compareOp CmpOp.Eq (Value.ref _) (Value.ref _)) _ _ _); k_dflt (refine EQ.eq_of (EQ.rc_ib (by k_asm) (by k_mem) (by k_mem) (by first | units_room | ktr_units)) ?_)))
  trivial
theorem tz_some {x : List UInt8} {z : Int × Bool} (h : tzF x = some z) : x.getD 0 0 ∈ ([43, 45] : List UInt8) ∧ ∃ n, IR.intB (x.drop 1) = some n ∧ pzF x n = z := by
  unfold tzF at h
  split at h
  · rename_i hg
    refine ⟨hg, ?_⟩
    cases hn : IR.intB (x.drop 1) with
    | none => rw [hn] at h; cases h
    | some n => rw [hn] at h; exact ⟨n, rfl, by injection h⟩
  · cases h
theorem lz_ne {s : Int} {b : Bool} {x : List UInt8} (h : lzF s b = some x) : 1 ≤ x.length := by
  unfold lzF at h
  split at h
  · cases h
  injection h with h
  subst h
  split <;> simp
set_option maxHeartbeats 1000000 in
theorem there_tail (w : World) (mean : ExcName → Option Value) (mg mb : Str → Option Value) (dp un : Nat) (gd : Option (List Code)) (cn : Str) (cs : Scope) (a : Addr) (ccd : Value) (cl : List (Str × Addr)) (outer : List Env) (base h₀ g : Heap) (L L' : Addr) (m m' : Str → Option Value) (news : Led) (s : Shared) (tn : Tok) (n n' : Int) (c : Bool) (x : List UInt8)
    (hb : n.natAbs < 10 ^ 60) (h60 : n.fmod 60 = 0) (hp : c = true → PF.plainF n = true) (hx : lzF n c = some x) (hxl : x.length ≤ 600) (hx1 : 1 ≤ x.length) (hg : x.getD 0 0 ∈ ([43, 45] : List UInt8)) (hi : IR.intB (x.drop 1) = some n') (hz : pzF x n' = (n, c && decide (0 ≤ n))) :
    ∀ (st : List Stmt) (hst : st = (bodyAt w 201).drop 1) (sc : Scope) (hsc : sc = scopeAt w 201)
    (hdp : dp + 3 < recursionLimit) (hun : un + 8 * 3 < cLine)
    (FG : Fr h₀ L g m) (B : Below (ktrTop dp un gd cn cs L a ccd cl outer) base (envX cn cs L a ccd cl :: outer) g) (X' : (hd.heap_1 w.params).In g) (T : Top hd.view_1 (looseW hd.view_1 [Str.ofString "format_timezone"]) mean mg mb g)
    (F : Fr g L' s.heap (fun y => if y = Str.ofString "minus" then some (.bool c) else if y = Str.ofString "seconds" then some (.int n tn) else m' y)) (N : News g L' s.heap news),
    wpAny (model Challenge.rw_ai0005_01.row.prog w) ((ktrTop dp un gd cn cs L a ccd cl outer).deeper (envOf (Str.ofString "_law_there_and_back") sc L' 201 (.ref 200))) (execs st (envOf (Str.ofString "_law_there_and_back") sc L' 201 (.ref 200)))
      (RetPost g L' s (fun v new => v = .bool true ∧ new = []) news) (fun _ _ => False) s := by
  k_fill
  intro st hst sc hsc hdp hun FG B X' T F N
  conv at hst => rhs; whnf
  conv at hsc => rhs; whnf
  subst hst hsc
  cases c <;> simp only [Bool.true_and, Bool.false_and] at hz
  all_goals k_steps
  all_goals unfold Hold
  all_goals refine con_use (lzone_con w mean mg mb _ _ hb _) (by k_asm) (by k_asm) (by k_asm) (by k_asm) (by k_asm) (by first | exact rfl | assumption) (by ktr_room) (by ktr_units) ?_
  all_goals intro v new h' tk' hR F' N'
  all_goals rw [hx] at hR
  all_goals obtain ⟨t, rfl, rfl⟩ := hR
  all_goals dsimp only [List.nil_append] at N'
  all_goals k_steps
  all_goals unfold Hold
  all_goals refine con_use (zone_made_good w mean mg mb _ _ hb h60 _ hp) (by k_asm) (by k_asm) (by k_asm) (by k_asm) (by k_asm) (by first | exact rfl | assumption) (by ktr_room) (by ktr_units) ?_
  all_goals intro v new h' tk' hR F' N'
  all_goals rw [hx] at hR
  all_goals obtain ⟨t, rfl, rfl⟩ := hR
  all_goals dsimp only [List.nil_append] at N'
  all_goals k_steps
  all_goals first
    | (exact absurd rfl (by assumption))
    | skip
  all_goals unfold Hold
  all_goals refine con_use (told_good w mean mg mb x _ n' hxl hx1 hg hi) (by k_asm) (by k_asm) (by k_asm) (by k_asm) (by k_asm) (by first | exact rfl | assumption) (by ktr_room) (by ktr_units) ?_
  all_goals intro v new h' tk' hR F' N'
  all_goals rw [hz] at hR
  all_goals obtain ⟨a', t', rfl, N'⟩ := get_ib hR N'
  all_goals clear hR
  all_goals dsimp only at N'
  all_goals k_steps
  all_goals first
    | exact ret_post0 ⟨rfl, rfl⟩ (by assumption) (by (first | (first | (with_reducible assumption) | (refine kst_newsOf (by with_reducible assumption) (fun p hp => ?_); simp only [List.mem_cons, List.mem_append, List.cons_append, List.nil_append, hp, or_true, true_or])) | (first | (assumption) | (apply news_tail; assumption) | (apply news_tail; apply news_tail; assumption) | (apply news_tail; apply news_tail; apply news_tail; assumption) | (apply news_tail; apply news_tail; apply news_tail; apply news_tail; assumption) | (apply news_tail; apply news_tail; apply news_tail; apply news_tail; apply news_tail; assumption))))
end
section
open _root_.PySem _root_.PySem.W _root_.PySem.Spec _root_.PySem.Calls _root_.PyProof.Rows
theorem told_CV : True := by
  k_with_none
  w_top off
  k_with "own omega" => (with_reducible first | exact om6 (by assumption) rfl | exact om0 (by assumption) | exact om2 (by assumption) rfl | exact om3 (by assumption) rfl | exact om4 (by assumption) rfl | exact Int.emod_nonneg _ (by decide) | exact Int.emod_lt_of_pos _ (by decide) | exact om8 (by assumption) rfl | exact om9 (by assumption) rfl)
  k_with "storeName" => ((k_here; k_dflt (first | ((with_reducible show wpAny _ _ (storeName _ _ (Value.int _ _)) _ _ _); refine storeG_int (by k_asm) (by k_asm) ?_ (by rfl) (by rfl); intro hq9 tq9 kq9 Fq9 Nq9) | ((with_reducible show wpAny _ _ (storeName _ _ (Value.bytes _ _)) _ _ _); refine storeG_bytes (by k_asm) (by k_asm) ?_ (by rfl) (by rfl); intro hq9 tq9 kq9 Fq9 Nq9) | (refine storeG_any (by k_asm) (by k_asm) ?_ (by rfl) (by rfl); intro hq9 kq9 Fq9 Nq9)); (try k_sweep)))
  k_with "Go" => (refine go_on (by assumption) ?_)
  k_with "own kby_size" => ((first | assumption | omega | (simp only [List.length_append, List.length_cons, List.length_nil] at *; omega)))
  k_with "subscriptTail" => ((k_here; (with_reducible show wpAny _ _ (subscriptTail _ (Expr.Slice _ _ none _) (Value.bytes (List.toArray _) _) (Value.ref _)) _ _ _); (with_reducible rename Fr _ _ _ _ => Fq9); (with_reducible rename News _ _ _ _ => Nq9); (refine BY.slice_L (s := ⟨_, _, _, _, _⟩) Fq9 Nq9 (by constructor) (by constructor) (by kby_size) ?_); intro _ _ _ Fq9 Nq9 hlenq9))
  k_with "binaryOp Add bytes bytes" => ((k_here; (with_reducible show wpAny _ _ (binaryOp Operator.Add (Value.bytes (List.toArray _) _) (Value.bytes (List.toArray _) _)) _ _ _); (refine BY.add_L (by kby_size) ?_); intro _ _))
  k_with "compareOp Eq bytes bytes" => ((k_here; (with_reducible show wpAny _ _ (compareOp CmpOp.Eq (Value.bytes (List.toArray _) _) (Value.bytes (List.toArray _) _)) _ _ _); (refine BY.eq_L ?_)))
  k_with "compareOp NotEq bytes bytes" => ((k_here; (with_reducible show wpAny _ _ (compareOp CmpOp.NotEq (Value.bytes (List.toArray _) _) (Value.bytes (List.toArray _) _)) _ _ _); (refine BY.ne_L ?_)))
  k_with "subscriptTail" => ((k_here; (with_reducible show wpAny _ _ (subscriptTail _ _ (Value.bytes (List.toArray _) _) (Value.int _ _)) _ _ _); (refine BY.item_L (by kby_size) (by first | decide | omega) (by first | omega | (simp only [List.length_append, List.length_cons, List.length_nil] at *; omega)) ?_); intro _ _))
  k_with "compareOp NotIn int bytes" => ((k_here; (with_reducible show wpAny _ _ (compareOp CmpOp.NotIn (Value.int _ _) (Value.bytes (List.toArray _) _)) _ _ _); (refine BY.notIn_B ?_)))
  k_with "call type:int" => ((k_here; (with_reducible show wpAny _ _ (call (Value.type "int") [Value.bytes (List.toArray _) _]) _ _ _); (refine IR.call_int_bytes (by assumption) (by assumption) ?_)))
  k_with "getMethod bytes" => ((k_here; first | (with_reducible refine BW.meth_rindex ?_) | (with_reducible refine BW.meth_rsplit ?_) | (with_reducible refine BW.meth_split ?_) | (with_reducible refine BW.meth_join ?_)))
  k_with "call builtin:bytes.rindex" => ((k_here; first
  | (refine BW.rindex_found (by with_reducible assumption) ?_; intro _ _)
  | (refine BW.rindex_not (by with_reducible assumption) (by first | exact rfl | assumption) ?_; intro _ _ _ _ hxq9)))
  k_with "call builtin:bytes.rsplit" => ((k_here; first
  | (refine BW.rsplit_two (by k_asm) (by k_asm) (by kby_size) (by with_reducible assumption) ?_; intro Dq9 t1q9 t2q9 hq9 kq9 Fq9 Nq9 l1q9; (try k_lt l1q9))
  | (refine BW.rsplit_one (by k_asm) (by k_asm) (by kby_size) (by with_reducible assumption) ?_; intro Dq9 t1q9 hq9 kq9 Fq9 Nq9 l1q9; (try k_lt l1q9))))
  k_with "call builtin:bytes.split" => ((k_here; (refine BW.split_L (by k_asm) (by k_asm) (by kby_size) ?_); intro Dq9 vsq9 hq9 kq9 hvsq9 Fq9 Nq9 l1q9; (try k_lt l1q9)))
  k_with "call builtin:bytes.join" => ((k_here; (refine BW.join_L (News.isList (by k_asm) (by k_mem)) (by with_reducible assumption) (by kby_size) ?_); intro _ _))
  k_with "assign Tuple" => ((k_here; (with_reducible show wpAny _ _ (assign (Expr.Tuple _ _ _) _ (Value.ref _)) _ _ _); (refine BW.unpack_one (News.isList (by k_asm) (by k_mem)) (by exact rfl) (by exact rfl) (by exact rfl) ?_); intro _ _ _ _ hxq9))
  k_with "subscriptTail" => ((k_here; (with_reducible show wpAny _ _ (subscriptTail _ _ (Value.ref _) (Value.int _ _)) _ _ _); (refine BW.item_BL (News.isList (by k_asm) (by k_mem)) (by with_reducible assumption) (by first | assumption | omega) (by first | assumption | omega) (by first | assumption | omega) ?_); intro _))
  k_with "noteFrame ref" => ((k_here; k_dflt ((with_reducible rename Heap.MadeExc _ _ _ _ _ => hxMq9); (refine look_made2 (Heap.MadeExc.of hxMq9) (by k_asm) (by k_asm) (by assumption) ?_); clear hxMq9; intro hq9 tq9 Gq9 Fq9 Rq9 alq9 Uq9; (try dsimp only at Rq9 Uq9 ⊢))))
  k_with "leaving ref" => ((k_here; k_dflt ((with_reducible rename KtsDicts _ _ => kdX); (with_reducible rename Heap.MadeExc _ _ _ _ _ => hxMq9); (refine leave_raise2 (by assumption) (Heap.MadeExc.of hxMq9) (by assumption) (by k_asm) ?_); intro hq9 tq9 Sq9 alq9 Uq9; (have Rq9 := RaisedS.toK Sq9); (try dsimp only at Sq9 Rq9 Uq9 ⊢))))
  k_with "noteFrame ref" => ((k_here; k_dflt ((rename RaisedS _ _ _ _ _ _ _ _ _ => rsX); (with_reducible rename Alone _ _ => alX); (with_reducible show wpAny _ _ (noteFrame _ _) (fun _ s₂ => wpAny _ _ (setFlight _ none) (fun _ s₃ => wpAny _ _ (handleBy _ _ [ExceptHandler.ExceptHandler _ (some _) [Stmt.Raise (some _) (some _) _] _]) _ _ s₃) _ s₂) _ _); (refine look_on2 rsX alX (by assumption) (by assumption) ?_); intro hq9 Rq9 alq9 Uq9; (try dsimp only at Rq9 Uq9 ⊢))))
  k_with "handleBy ref" => ((k_here; k_dflt ((with_reducible rename Alone _ _ => alX); (refine hit2 (by assumption) alX (by assumption) (by assumption) (by assumption) (by assumption) (by assumption) (by assumption) (by kts_test) PySem.F.excBase_Exception PySem.F.excRaise_ValueError (by k_is) (by k_exc) ?_ (fun _ _ hh => hh)); intro hq9 tkq9 e2q9 t2q9 Rq9 RKq9 Uq9; (try dsimp only at Rq9 RKq9 Uq9 ⊢))))
  k_with "getMethod str" => ((k_here; (with_reducible refine BE.meth_encode ?_)))
  k_with "binaryOp Mod str ref" => ((k_here; (with_reducible show wpAny _ _ (binaryOp Operator.Mod (Value.str _ _) (Value.ref _)) _ _ _); k_dflt ((refine BF.fmt_rule (by k_asm) (by k_mem) (by decide +kernel) (by first | exact PG.fd1 (by omega) | exact PG.fd2 (by omega)) PG.fd3 ?_); intro _ _)))
  k_with "call builtin:str.encode" => ((k_here; k_dflt ((refine BE.encode (BF.ascii_fmt _ _ (by decide +kernel)) (BF.size_fmt (by decide +kernel) (by first | exact PG.fd1 (by omega) | exact PG.fd2 (by omega)) PG.fd3) ?_); intro _ _)))
  k_with "call type:str" => ((k_here; k_dflt (refine P.str_of_int (BF.log_lt (by omega)) ?_)))
  k_with "call builtin:str.encode" => ((k_here; k_dflt ((refine BE.encode (BF.ascii_int _) (PH.size_int (by omega)) ?_); intro _ _)))
  k_with "call builtin:bytes.join" => ((k_here; k_dflt ((refine BW.join_L (News.isList (by k_asm) (by k_mem)) (bytesAre_cons (bytesAre_cons (bytesAre_cons bytesAre_nil))) (PH.join3 (by assumption) (Nat.le_trans (PH.octs_int_len (by omega)) (by decide)) (Nat.le_trans (PH.octs_fmt_len (by decide +kernel) (by first | exact PG.fd1 (by omega) | exact PG.fd2 (by omega)) PG.fd3) (by decide))) ?_); intro _ _)))
  k_with "subscriptTail" => ((k_here; (with_reducible show wpAny _ _ (subscriptTail _ (PySem.Expr.Slice _ _ none _) (Value.ref _) (Value.ref _)) _ _ _); k_dflt (first
  | (refine BS.slice_from (by k_asm) (by k_asm) (News.isList (by k_asm) (by k_mem)) (by with_reducible assumption) (by constructor) (by constructor) (by omega) (by (try simp only [List.length_drop, List.length_take]); omega) ?_)
  | (refine BS.slice_upto (by k_asm) (by k_asm) (News.isList (by k_asm) (by k_mem)) (by with_reducible assumption) (by constructor) (by constructor) (by omega) (by (try simp only [List.length_drop, List.length_take]); omega) ?_)
  | (refine BS.slice_less (by k_asm) (by k_asm) (News.isList (by k_asm) (by k_mem)) (by with_reducible assumption) (by constructor) (by constructor) (by (try simp only [List.length_drop, List.length_take]); omega) ?_)); intro Dq9 wsq9 hq9 hvsq9 Fq9 Nq9 l1q9; (try k_lt l1q9)))
  k_with "subscriptTail" => ((k_here; (with_reducible show wpAny _ _ (subscriptTail _ _ (Value.ref _) (Value.int (-1) _)) _ _ _); (refine BS.item_last (News.isList (by k_asm) (by k_mem)) (by with_reducible assumption) (by first | assumption | omega) (by first | assumption | omega) ?_); intro _))
  k_with "call builtin:len" => ((k_here; (with_reducible show wpAny _ _ (call (Value.builtin "len") [Value.ref _]) _ _ _); (refine BS.len_B (News.isList (by k_asm) (by k_mem)) (by with_reducible assumption) (by (try simp only [List.length_drop, List.length_take]); omega) ?_); intro _ _))
  k_with "call builtin:divmod" => ((k_here; (with_reducible show wpAny _ _ (call (Value.builtin _) [Value.int _ _, Value.int _ _]) _ _ _); (refine divmod_K (by k_asm) (by k_asm) (by first | assumption | omega) (by assumption) ?_); intro Dq9 hq9 _ _ _ Fq9 Nq9 l1q9; (try k_lt l1q9)))
  trivial
theorem told_CV_26 : True := by
  k_with "eval Call" => ((k_here; (with_reducible show wpAny _ _ (eval (PySem.Expr.Call (PySem.Expr.Name _ _) _ _ _) _) _ _ _); refine Call_ ?_))
  k_with "call ref" => ((k_here; (with_reducible show wpAny _ _ (call (Value.ref 131) _) _ _ _); k_dflt ((refine con_val (plain_con _ _ _ _ _ _) (by k_asm) (by k_asm) (by k_asm) (by k_asm) (by k_asm) (by first | exact rfl | assumption) (by ktr_room) (by ktr_units) ?_); intro hq9 tkq9 Fq9 Nq9)))
  k_with "call ref" => ((k_here; (with_reducible show wpAny _ _ (call (Value.ref 138) _) _ _ _); refine hold ?_))
  k_with "call ref" => ((k_here; (with_reducible show wpAny _ _ (call (Value.ref 180) _) _ _ _); refine hold ?_))
  k_with "call ref" => ((k_here; (with_reducible show wpAny _ _ (call (Value.ref 166) _) _ _ _); refine hold ?_))
  k_with "compareOp Eq ref ref" => ((k_here; (with_reducible show wpAny _ _ (compareOp CmpOp.Eq (Value.ref _) (Value.ref _)) _ _ _); k_dflt (refine EQ.eq_of (EQ.rc_ib (by k_asm) (by k_mem) (by k_mem) (by first | units_room | ktr_units)) ?_)))
  k_with "execs cons" => ((k_here; (with_reducible show wpAny _ _ (execs (Stmt.Assign [PySem.Expr.Name (Str.ofString "due") _] _ _ :: _) _) _ _ _); refine hold ?_))
  trivial
set_option maxHeartbeats 1000000 in
theorem there_good (w : World) (mean : ExcName → Option Value) (mg mb : Str → Option Value) (n : Int) (tn : Tok) (b : Bool) (hb : n.natAbs < 10 ^ 60) (h60 : n.fmod 60 = 0) :
    Con w mean mg mb 3 201 [.int n tn, .bool b] (fun v new => v = .bool true ∧ new = []) := by
  unfold Con
  k_fill
  intro dp un gd cn cs a ccd cl outer A₀ base h₀ L m news s Q E B F X N T hk hd hu hret
  obtain ⟨x, hx⟩ : ∃ x, lzF n (b && PF.plainF n) = some x := by unfold lzF; rw [if_neg (by rw [Int.fmod_eq_emod_of_nonneg _ (by decide)] at h60; omega)]; exact ⟨_, rfl⟩
  have hxl := Nat.le_trans (lz_len hb hx) (by decide : 64 ≤ 600)
  have hx1 := lz_ne hx
  have hxt := PJ.zone_tz hx
  obtain ⟨hg, n', hi, hz⟩ := tz_some hxt
  have hp : (b && PF.plainF n) = true → PF.plainF n = true := fun q => (Bool.and_eq_true_iff.mp q).2
  generalize hc : (b && PF.plainF n) = c at *
  clear hxt
  refine wpAny_call ?_
  cases b
  · rw [Bool.false_and] at hc
    subst hc
    w_strict (k_dflt cell_enter; k_steps)
    unfold Hold
    rename Fr _ _ _ _ => F'
    rename News _ _ _ _ => N'
    refine wpAny_mono (there_tail w mean mg mb dp un gd cn cs a ccd cl outer base h₀ _ L _ m _ _ _ _ n n' _ x hb h60 hp hx hxl hx1 hg hi hz _ rfl _ rfl hd hu (by assumption) (by assumption) (by assumption) (by assumption) (in2 F' (by with_unfolding_all rfl) (by with_unfolding_all rfl)) N') (fun _ _ q => RetPost.use q ?_) (fun _ _ h => h.elim)
    intro v new m9 h9 tk9 hR F9 N9
    obtain ⟨rfl, rfl⟩ := hR
    clear F' N'
    dsimp only
    k_steps
    exact end0 hret (by assumption) (by (first | (first | (with_reducible assumption) | (refine kst_newsOf (by with_reducible assumption) (fun p hp => ?_); simp only [List.mem_cons, List.mem_append, List.cons_append, List.nil_append, hp, or_true, true_or])) | (first | (assumption) | (apply news_tail; assumption) | (apply news_tail; apply news_tail; assumption) | (apply news_tail; apply news_tail; apply news_tail; assumption) | (apply news_tail; apply news_tail; apply news_tail; apply news_tail; assumption) | (apply news_tail; apply news_tail; apply news_tail; apply news_tail; apply news_tail; assumption)))) ⟨rfl, rfl⟩
  · rw [Bool.true_and] at hc
    subst hc
    w_strict (k_dflt cell_enter; k_steps)
    unfold Hold
    rename Fr _ _ _ _ => F'
    rename News _ _ _ _ => N'
    refine wpAny_mono (there_tail w mean mg mb dp un gd cn cs a ccd cl outer base h₀ _ L _ m _ _ _ _ n n' _ x hb h60 hp hx hxl hx1 hg hi hz _ rfl _ rfl hd hu (by assumption) (by assumption) (by assumption) (by assumption) (in2 F' (by with_unfolding_all rfl) (by with_unfolding_all rfl)) N') (fun _ _ q => RetPost.use q ?_) (fun _ _ h => h.elim)
    intro v new m9 h9 tk9 hR F9 N9
    obtain ⟨rfl, rfl⟩ := hR
    clear F' N'
    dsimp only
    k_steps
    exact end0 hret (by assumption) (by (first | (first | (with_reducible assumption) | (refine kst_newsOf (by with_reducible assumption) (fun p hp => ?_); simp only [List.mem_cons, List.mem_append, List.cons_append, List.nil_append, hp, or_true, true_or])) | (first | (assumption) | (apply news_tail; assumption) | (apply news_tail; apply news_tail; assumption) | (apply news_tail; apply news_tail; apply news_tail; assumption) | (apply news_tail; apply news_tail; apply news_tail; apply news_tail; assumption) | (apply news_tail; apply news_tail; apply news_tail; apply news_tail; apply news_tail; assumption)))) ⟨rfl, rfl⟩
set_option maxHeartbeats 1000000 in
theorem there_set (w : World) (mean : ExcName → Option Value) (mg mb : Str → Option Value) (dp un : Nat) (gd : Option (List Code)) (cn : Str) (cs : Scope) (a : Addr) (ccd : Value) (cl : List (Str × Addr)) (outer : List Env) (base h₀ g : Heap) (L L' : Addr) (m m' : Str → Option Value) (news : Led) (s : Shared) (tn : Tok) (n : Int) (b : Bool) :
    ∀ (st : Stmt) (hst : st = stAt w 201 0) (sc : Scope) (hsc : sc = scopeAt w 201)
    (hdp : dp + 3 < recursionLimit) (hun : un + 8 * 3 < cLine)
    (FG : Fr h₀ L g m) (B : Below (ktrTop dp un gd cn cs L a ccd cl outer) base (envX cn cs L a ccd cl :: outer) g) (X' : (hd.heap_1 w.params).In g) (T : Top hd.view_1 (looseW hd.view_1 [Str.ofString "format_timezone"]) mean mg mb g)
    (F : Fr g L' s.heap (fun y => if y = Str.ofString "minus" then some (.bool b) else if y = Str.ofString "seconds" then some (.int n tn) else m' y)) (N : News g L' s.heap news),
    wpAny (model Challenge.rw_ai0005_01.row.prog w) ((ktrTop dp un gd cn cs L a ccd cl outer).deeper (envOf (Str.ofString "_law_there_and_back") sc L' 201 (.ref 200))) (exec st (envOf (Str.ofString "_law_there_and_back") sc L' 201 (.ref 200)))
      (NextPost g L' s (fun y => if y = Str.ofString "minus" then some (.bool (b && PF.plainF n)) else if y = Str.ofString "seconds" then some (.int n tn) else m' y) news) (fun _ _ => False) s := by
  k_fill
  intro st hst sc hsc hdp hun FG B X' T F N
  conv at hst => rhs; whnf
  conv at hsc => rhs; whnf
  subst hst hsc
  cases b
  all_goals k_steps
  all_goals refine ⟨rfl, _, _, rfl, fr_ext (by assumption) (fun y => ?_), by assumption⟩
  all_goals try dsimp only
  all_goals by_cases q1 : y = Str.ofString "minus"
  all_goals first
    | (simp only [if_pos q1, Bool.false_and, Bool.true_and]; done)
    | (simp only [if_neg q1]; done)
theorem told_CV_27 : True := by
  k_with "execs cons" => ((k_here; (with_reducible show wpAny _ _ (execs (Stmt.Assign [PySem.Expr.Name (Str.ofString "nothing") _] _ _ :: _) _) _ _ _); refine hold ?_))
  k_with "execs cons" => ((k_here; (with_reducible show wpAny _ _ (execs (Stmt.If (PySem.Expr.BoolOp _ _ _) _ _ _ :: _) _) _ _ _); k_dflt (exact absurd (by assumption) h60)))
  trivial
set_option maxHeartbeats 1000000 in
theorem there_bad (w : World) (mean : ExcName → Option Value) (mg mb : Str → Option Value) (n : Int) (tn : Tok) (b : Bool) (hb : n.natAbs < 10 ^ 60) (h60 : n.fmod 60 ≠ 0) :
    ConL w mean mg mb 201 [.int n tn, .bool b] (fun v new => v = .bool true ∧ new = []) := by
  unfold ConL
  k_fill
  intro cn cs a ccd h₀ L m news s Q E B F X N T hk hret
  have hx : ∀ c, lzF n c = none := fun c => PG.e_bad h60
  refine wpK_call ?_
  ((refine' codeK_defS0 ?k1_58 ?k2_58 ?k3_58 ?k4_58 ?k5_58 ?kA_58 ?k6_58 ?k7_58 ?k8_58 ?k9_58 ?kB_58 ?_ ?cK_58 ?c2_58 ?c3_58 ?c4_58 ?c5_58; (case kA_58 => exact rfl); (case k2_58 => k_asm); (case k1_58 => k_asm); (case k3_58 => k_asm); (case k4_58 => k_asm); (case k5_58 => k_asm); (case k6_58 => k_is); (case k7_58 => k_is); (case k8_58 => k_room); (case k9_58 => exact BindsTo.of_eq rfl); (case kB_58 => exact locs rfl); (case cK_58 => first | assumption | exact rfl); (case c2_58 => exact rfl); (case c3_58 => exact rfl); (case c4_58 => exact rfl); (case c5_58 => decide); intro gz' Lz' hz' FGz' Fz' Nz' Bz' Xz' Tz' Dz'; (try dsimp only); (try k_lift Bz'); (try k_fold)))
  rename Fr _ _ _ _ => F'
  rename News _ _ _ _ => N'
  refine wpK_execs_cons (wpK_of (wpAny_mono (there_set w mean mg mb _ _ _ cn cs a ccd _ _ _ h₀ _ L _ m _ _ _ _ n b _ rfl _ rfl (by ktr_room) (by ktr_units) (by assumption) (by assumption) (by assumption) (by assumption) (in2 F' (by with_unfolding_all rfl) (by with_unfolding_all rfl)) N') (fun _ _ q => NextPost.use q ?_) (fun _ _ h => h.elim)))
  clear F' N'
  intro h9 tk9 F9 N9
  dsimp only
  all_goals refine wpK_execs_cons (wpK_of ?_)
  all_goals k_steps
  all_goals unfold Hold
  all_goals refine con_use (lzone_con w mean mg mb _ _ hb _) (by k_asm) (by k_asm) (by k_asm) (by k_asm) (by k_asm) (by first | exact rfl | assumption) (by ktr_room) (by ktr_units) ?_
  all_goals intro v new h' tk' hR F' N'
  all_goals rw [hx] at hR
  all_goals obtain ⟨rfl, rfl⟩ := hR
  all_goals dsimp only [List.nil_append] at N'
  all_goals k_steps
  all_goals dsimp only
  all_goals refine wpK_execs_cons (wpK_If (wpK_isTrue_Compare1 (wpK_Call ?_)))
  all_goals k_steps
  all_goals refine wpK_callWith (K := hd.heap_1 w.params) ?_ ?_
  all_goals first | k_is | skip
  all_goals k_steps
  all_goals refine wpK_call ?_
  all_goals ((refine' codeK_defS ?k1_59 ?k2_59 ?k3_59 ?k4_59 ?k5_59 ?XB_59 ?TB_59 ?D_59 ?T0_59 ?kA_59 ?k6_59 ?k7_59 ?k8_59 ?k9_59 ?kB_59 ?_ ?cK_59 ?c2_59 ?c3_59 ?c4_59 ?c5_59; (case kA_59 => exact rfl); (case k2_59 => k_asm); (case k1_59 => k_asm); (case XB_59 => assumption); (case TB_59 => assumption); (case D_59 => assumption); (case T0_59 => first | assumption | exact KtsTurn.refl); (case k3_59 => k_asm); (case k4_59 => k_asm); (case k5_59 => k_asm); (case k6_59 => k_is); (case k7_59 => k_is); (case k8_59 => k_room); (case k9_59 => exact BindsTo.of_eq rfl); (case kB_59 => exact locs rfl); (case cK_59 => first | assumption | exact rfl); (case c2_59 => exact rfl); (case c3_59 => exact rfl); (case c4_59 => exact rfl); (case c5_59 => decide); intro gz' Lz' hz' FGz' Fz' Nz' Bz' Xz' Tz' Dz'; (try dsimp only); (try k_lift Bz'); (try k_fold)))
  all_goals refine wpK_of ?_
  all_goals k_steps
  all_goals first
    | (exfalso; exact absurd (by assumption) h60)
    | skip
  all_goals refine wpK_of ?_
  all_goals k_steps
  all_goals refine wpK_of ?_
  all_goals k_steps
  all_goals dsimp only
  all_goals refine wpK_of ?_
  all_goals k_steps
  all_goals exact end0 hret (by assumption) (by (first | (first | (with_reducible assumption) | (refine kst_newsOf (by with_reducible assumption) (fun p hp => ?_); simp only [List.mem_cons, List.mem_append, List.cons_append, List.nil_append, hp, or_true, true_or])) | (first | (assumption) | (apply news_tail; assumption) | (apply news_tail; apply news_tail; assumption) | (apply news_tail; apply news_tail; apply news_tail; assumption) | (apply news_tail; apply news_tail; apply news_tail; apply news_tail; assumption) | (apply news_tail; apply news_tail; apply news_tail; apply news_tail; apply news_tail; assumption)))) ⟨rfl, rfl⟩
set_option maxHeartbeats 1000000 in
theorem there_con (w : World) (mean : ExcName → Option Value) (mg mb : Str → Option Value) (n : Int) (tn : Tok) (b : Bool) (hb : n.natAbs < 10 ^ 60) :
    ConL w mean mg mb 201 [.int n tn, .bool b] (fun v new => v = .bool true ∧ new = []) := by
  by_cases h60 : n.fmod 60 = 0
  · unfold ConL
    k_fill
    intro cn cs a ccd h₀ L m news s Q E B F X N T hk hret
    refine wpK_of (con_use (there_good w mean mg mb n tn b hb h60) (by k_asm) (by k_asm) (by k_asm) (by k_asm) (by k_asm) (by first | exact rfl | assumption) (by ktr_room) (by ktr_units) hret)
  · exact there_bad w mean mg mb n tn b hb h60
end
section
open _root_.PySem _root_.PySem.W _root_.PySem.Spec _root_.PySem.Calls _root_.PyProof.Rows
theorem told_LA : True := by
  k_with_none
  w_top off
  k_with "own omega" => (with_reducible first | exact om6 (by assumption) rfl | exact om0 (by assumption) | exact om2 (by assumption) rfl | exact om3 (by assumption) rfl | exact om4 (by assumption) rfl | exact Int.emod_nonneg _ (by decide) | exact Int.emod_lt_of_pos _ (by decide) | exact om8 (by assumption) rfl | exact om9 (by assumption) rfl)
  k_with "storeName" => ((k_here; k_dflt (first | ((with_reducible show wpAny _ _ (storeName _ _ (Value.int _ _)) _ _ _); refine storeG_int (by k_asm) (by k_asm) ?_ (by rfl) (by rfl); intro hq9 tq9 kq9 Fq9 Nq9) | ((with_reducible show wpAny _ _ (storeName _ _ (Value.bytes _ _)) _ _ _); refine storeG_bytes (by k_asm) (by k_asm) ?_ (by rfl) (by rfl); intro hq9 tq9 kq9 Fq9 Nq9) | (refine storeG_any (by k_asm) (by k_asm) ?_ (by rfl) (by rfl); intro hq9 kq9 Fq9 Nq9)); (try k_sweep)))
  k_with "Go" => (refine go_on (by assumption) ?_)
  k_with "own kby_size" => ((first | assumption | omega | (simp only [List.length_append, List.length_cons, List.length_nil] at *; omega)))
  k_with "subscriptTail" => ((k_here; (with_reducible show wpAny _ _ (subscriptTail _ (Expr.Slice _ _ none _) (Value.bytes (List.toArray _) _) (Value.ref _)) _ _ _); (with_reducible rename Fr _ _ _ _ => Fq9); (with_reducible rename News _ _ _ _ => Nq9); (refine BY.slice_L (s := ⟨_, _, _, _, _⟩) Fq9 Nq9 (by constructor) (by constructor) (by kby_size) ?_); intro _ _ _ Fq9 Nq9 hlenq9))
  k_with "binaryOp Add bytes bytes" => ((k_here; (with_reducible show wpAny _ _ (binaryOp Operator.Add (Value.bytes (List.toArray _) _) (Value.bytes (List.toArray _) _)) _ _ _); (refine BY.add_L (by kby_size) ?_); intro _ _))
  k_with "compareOp Eq bytes bytes" => ((k_here; (with_reducible show wpAny _ _ (compareOp CmpOp.Eq (Value.bytes (List.toArray _) _) (Value.bytes (List.toArray _) _)) _ _ _); (refine BY.eq_L ?_)))
  k_with "compareOp NotEq bytes bytes" => ((k_here; (with_reducible show wpAny _ _ (compareOp CmpOp.NotEq (Value.bytes (List.toArray _) _) (Value.bytes (List.toArray _) _)) _ _ _); (refine BY.ne_L ?_)))
  k_with "subscriptTail" => ((k_here; (with_reducible show wpAny _ _ (subscriptTail _ _ (Value.bytes (List.toArray _) _) (Value.int _ _)) _ _ _); (refine BY.item_L (by kby_size) (by first | decide | omega) (by first | omega | (simp only [List.length_append, List.length_cons, List.length_nil] at *; omega)) ?_); intro _ _))
  k_with "compareOp NotIn int bytes" => ((k_here; (with_reducible show wpAny _ _ (compareOp CmpOp.NotIn (Value.int _ _) (Value.bytes (List.toArray _) _)) _ _ _); (refine BY.notIn_B ?_)))
  k_with "call type:int" => ((k_here; (with_reducible show wpAny _ _ (call (Value.type "int") [Value.bytes (List.toArray _) _]) _ _ _); (refine IR.call_int_bytes (by assumption) (by assumption) ?_)))
  k_with "getMethod bytes" => ((k_here; first | (with_reducible refine BW.meth_rindex ?_) | (with_reducible refine BW.meth_rsplit ?_) | (with_reducible refine BW.meth_split ?_) | (with_reducible refine BW.meth_join ?_)))
  k_with "call builtin:bytes.rindex" => ((k_here; first
  | (refine BW.rindex_found (by with_reducible assumption) ?_; intro _ _)
  | (refine BW.rindex_not (by with_reducible assumption) (by first | exact rfl | assumption) ?_; intro _ _ _ _ hxq9)))
  k_with "call builtin:bytes.rsplit" => ((k_here; first
  | (refine BW.rsplit_two (by k_asm) (by k_asm) (by kby_size) (by with_reducible assumption) ?_; intro Dq9 t1q9 t2q9 hq9 kq9 Fq9 Nq9 l1q9; (try k_lt l1q9))
  | (refine BW.rsplit_one (by k_asm) (by k_asm) (by kby_size) (by with_reducible assumption) ?_; intro Dq9 t1q9 hq9 kq9 Fq9 Nq9 l1q9; (try k_lt l1q9))))
  k_with "call builtin:bytes.split" => ((k_here; (refine BW.split_L (by k_asm) (by k_asm) (by kby_size) ?_); intro Dq9 vsq9 hq9 kq9 hvsq9 Fq9 Nq9 l1q9; (try k_lt l1q9)))
  k_with "call builtin:bytes.join" => ((k_here; (refine BW.join_L (News.isList (by k_asm) (by k_mem)) (by with_reducible assumption) (by kby_size) ?_); intro _ _))
  k_with "assign Tuple" => ((k_here; (with_reducible show wpAny _ _ (assign (Expr.Tuple _ _ _) _ (Value.ref _)) _ _ _); (refine BW.unpack_one (News.isList (by k_asm) (by k_mem)) (by exact rfl) (by exact rfl) (by exact rfl) ?_); intro _ _ _ _ hxq9))
  k_with "subscriptTail" => ((k_here; (with_reducible show wpAny _ _ (subscriptTail _ _ (Value.ref _) (Value.int _ _)) _ _ _); (refine BW.item_BL (News.isList (by k_asm) (by k_mem)) (by with_reducible assumption) (by first | assumption | omega) (by first | assumption | omega) (by first | assumption | omega) ?_); intro _))
  k_with "noteFrame ref" => ((k_here; k_dflt ((with_reducible rename Heap.MadeExc _ _ _ _ _ => hxMq9); (refine look_made2 (Heap.MadeExc.of hxMq9) (by k_asm) (by k_asm) (by assumption) ?_); clear hxMq9; intro hq9 tq9 Gq9 Fq9 Rq9 alq9 Uq9; (try dsimp only at Rq9 Uq9 ⊢))))
  k_with "leaving ref" => ((k_here; k_dflt ((with_reducible rename KtsDicts _ _ => kdX); (with_reducible rename Heap.MadeExc _ _ _ _ _ => hxMq9); (refine leave_raise2 (by assumption) (Heap.MadeExc.of hxMq9) (by assumption) (by k_asm) ?_); intro hq9 tq9 Sq9 alq9 Uq9; (have Rq9 := RaisedS.toK Sq9); (try dsimp only at Sq9 Rq9 Uq9 ⊢))))
  k_with "noteFrame ref" => ((k_here; k_dflt ((rename RaisedS _ _ _ _ _ _ _ _ _ => rsX); (with_reducible rename Alone _ _ => alX); (with_reducible show wpAny _ _ (noteFrame _ _) (fun _ s₂ => wpAny _ _ (setFlight _ none) (fun _ s₃ => wpAny _ _ (handleBy _ _ [ExceptHandler.ExceptHandler _ (some _) [Stmt.Raise (some _) (some _) _] _]) _ _ s₃) _ s₂) _ _); (refine look_on2 rsX alX (by assumption) (by assumption) ?_); intro hq9 Rq9 alq9 Uq9; (try dsimp only at Rq9 Uq9 ⊢))))
  k_with "handleBy ref" => ((k_here; k_dflt ((with_reducible rename Alone _ _ => alX); (refine hit2 (by assumption) alX (by assumption) (by assumption) (by assumption) (by assumption) (by assumption) (by assumption) (by kts_test) PySem.F.excBase_Exception PySem.F.excRaise_ValueError (by k_is) (by k_exc) ?_ (fun _ _ hh => hh)); intro hq9 tkq9 e2q9 t2q9 Rq9 RKq9 Uq9; (try dsimp only at Rq9 RKq9 Uq9 ⊢))))
  k_with "getMethod str" => ((k_here; (with_reducible refine BE.meth_encode ?_)))
  k_with "binaryOp Mod str ref" => ((k_here; (with_reducible show wpAny _ _ (binaryOp Operator.Mod (Value.str _ _) (Value.ref _)) _ _ _); k_dflt ((refine BF.fmt_rule (by k_asm) (by k_mem) (by decide +kernel) (by first | exact PG.fd1 (by omega) | exact PG.fd2 (by omega)) PG.fd3 ?_); intro _ _)))
  k_with "call builtin:str.encode" => ((k_here; k_dflt ((refine BE.encode (BF.ascii_fmt _ _ (by decide +kernel)) (BF.size_fmt (by decide +kernel) (by first | exact PG.fd1 (by omega) | exact PG.fd2 (by omega)) PG.fd3) ?_); intro _ _)))
  k_with "call type:str" => ((k_here; k_dflt (refine P.str_of_int (BF.log_lt (by omega)) ?_)))
  k_with "call builtin:str.encode" => ((k_here; k_dflt ((refine BE.encode (BF.ascii_int _) (PH.size_int (by omega)) ?_); intro _ _)))
  k_with "call builtin:bytes.join" => ((k_here; k_dflt ((refine BW.join_L (News.isList (by k_asm) (by k_mem)) (bytesAre_cons (bytesAre_cons (bytesAre_cons bytesAre_nil))) (PH.join3 (by assumption) (Nat.le_trans (PH.octs_int_len (by omega)) (by decide)) (Nat.le_trans (PH.octs_fmt_len (by decide +kernel) (by first | exact PG.fd1 (by omega) | exact PG.fd2 (by omega)) PG.fd3) (by decide))) ?_); intro _ _)))
  k_with "subscriptTail" => ((k_here; (with_reducible show wpAny _ _ (subscriptTail _ (PySem.Expr.Slice _ _ none _) (Value.ref _) (Value.ref _)) _ _ _); k_dflt (first
  | (refine BS.slice_from (by k_asm) (by k_asm) (News.isList (by k_asm) (by k_mem)) (by with_reducible assumption) (by constructor) (by constructor) (by omega) (by (try simp only [List.length_drop, List.length_take]); omega) ?_)
  | (refine BS.slice_upto (by k_asm) (by k_asm) (News.isList (by k_asm) (by k_mem)) (by with_reducible assumption) (by constructor) (by constructor) (by omega) (by (try simp only [List.length_drop, List.length_take]); omega) ?_)
  | (refine BS.slice_less (by k_asm) (by k_asm) (News.isList (by k_asm) (by k_mem)) (by with_reducible assumption) (by constructor) (by constructor) (by (try simp only [List.length_drop, List.length_take]); omega) ?_)); intro Dq9 wsq9 hq9 hvsq9 Fq9 Nq9 l1q9; (try k_lt l1q9)))
  k_with "subscriptTail" => ((k_here; (with_reducible show wpAny _ _ (subscriptTail _ _ (Value.ref _) (Value.int (-1) _)) _ _ _); (refine BS.item_last (News.isList (by k_asm) (by k_mem)) (by with_reducible assumption) (by first | assumption | omega) (by first | assumption | omega) ?_); intro _))
  k_with "call builtin:len" => ((k_here; (with_reducible show wpAny _ _ (call (Value.builtin "len") [Value.ref _]) _ _ _); (refine BS.len_B (News.isList (by k_asm) (by k_mem)) (by with_reducible assumption) (by (try simp only [List.length_drop, List.length_take]); omega) ?_); intro _ _))
  k_with "call builtin:divmod" => ((k_here; (with_reducible show wpAny _ _ (call (Value.builtin _) [Value.int _ _, Value.int _ _]) _ _ _); (refine divmod_K (by k_asm) (by k_asm) (by first | assumption | omega) (by assumption) ?_); intro Dq9 hq9 _ _ _ Fq9 Nq9 l1q9; (try k_lt l1q9)))
  trivial
noncomputable def turnAt (w : World) : List Stmt := (subS (stAt w 222 1)).1
noncomputable def thenOf (st : Stmt) : List Stmt := (subS st).1
noncomputable def elseOf (st : Stmt) : List Stmt := (subS st).2
set_option maxHeartbeats 1000000 in
theorem law_told (w : World) (mean : ExcName → Option Value) (mg mb : Str → Option Value) (fa : Addr) (cd : Value) (h₀ : Heap) (L : Addr) (m' : Str → Option Value) (news : Led) (s : Shared) (tl t1 t2 t3 : Tok) (r z : Addr) (ln who : List UInt8) (when sec : Int) (f : Bool)
    (hlen : ln.length ≤ 600) (hb : PQ.Hb ln) (ht : ltF ln = some (who, some (when, (sec, f)))) :
    ∀ (st : Stmt) (hst : st = (turnAt w).getD 0 (.Pass default)) (sc : Scope) (hsc : sc = scopeAt w 222)
    (B : Below callerA h₀ [] h₀) (X : (hd.heap_1 w.params).In h₀) (T : Top hd.view_1 (looseW hd.view_1 [Str.ofString "format_timezone"]) mean mg mb h₀)
    (F : Fr h₀ L s.heap (fun y => if y = Str.ofString "line" then some (.bytes ln.toArray tl) else if y = Str.ofString "record" then some (.ref r) else m' y))
    (N : News h₀ L s.heap ((r, tupO [.bytes who.toArray t1, .int when t2, .ref z]) :: (z, tupO [.int sec t3, .bool f]) :: news)),
    wpK (model Challenge.rw_ai0005_01.row.prog w) (callerA.deeper (envOf (Str.ofString "law") sc L fa cd)) (exec st (envOf (Str.ofString "law") sc L fa cd))
      (NextPost h₀ L s (fun y => if y = Str.ofString "line" then some (.bytes ln.toArray tl) else if y = Str.ofString "record" then some (.ref r) else m' y) ((r, tupO [.bytes who.toArray t1, .int when t2, .ref z]) :: (z, tupO [.int sec t3, .bool f]) :: news)) (fun _ _ => False) s := by
  k_fill
  intro st hst sc hsc B X T F N
  conv at hst => rhs; whnf
  conv at hsc => rhs; whnf
  subst hst hsc
  refine wpK_If (wpK_isTrue_Compare1 (wpK_Call ?_))
  k_steps
  refine wpK_callWith (K := hd.heap_1 w.params) ?_ ?_
  · k_is
  k_steps
  refine line_told w mean mg mb ln _ hlen hb _ _ _ _ _ _ _ _ _ _ _ (by k_asm) (by k_asm) (by k_asm) (by k_asm) (by k_asm) rfl ?_
  intro v new h' tk' hR F' N'
  refine wpK_of ?_
  k_steps
  have hrec : RetLine (ltF ln) (.ref r) [(r, tupO [.bytes who.toArray t1, .int when t2, .ref z]), (z, tupO [.int sec t3, .bool f])] := by rw [ht]; exact ⟨r, z, t1, t2, t3, rfl, rfl⟩
  rename News _ _ _ _ => N'
  refine EQ.ne_of (EQ.line_eq N' hR hrec (fun p hp => List.mem_append_left _ hp) (fun p hp => List.mem_append_right _ (by simp only [List.mem_cons, List.not_mem_nil, or_false] at hp ⊢; rcases hp with h | h; exact .inl h; exact .inr (.inl h))) (by first | units_room | exact Nat.le_of_ble_eq_true rfl)).2 ?_
  k_steps
  refine wpK_of ?_
  k_steps
  exact ⟨rfl, _, _, rfl, by assumption, news_sub (by assumption) (fun p hp => List.mem_append_right _ hp)⟩
end
section
open _root_.PySem _root_.PySem.W _root_.PySem.Spec _root_.PySem.Calls _root_.PyProof.Rows
theorem told_LB : True := by
  w_top off
  trivial
theorem told_LB_28 : True := by
  k_with "eval Call" => ((k_here; (with_reducible show wpAny _ _ (eval (PySem.Expr.Call (PySem.Expr.Name _ _) _ _ _) _) _ _ _); refine Call_ ?_))
  k_with "call ref" => ((k_here; (with_reducible show wpAny _ _ (call (Value.ref 208) _) _ _ _); refine hold ?_))
  k_with "call ref" => ((k_here; (with_reducible show wpAny _ _ (call (Value.ref 138) _) _ _ _); refine hold ?_))
  trivial
noncomputable def madeV (o : Option (List UInt8)) (t : Tok) : Value := match o with
  | none => .none
  | some x => .bytes x.toArray t
noncomputable def MovePost (g : Heap) (L : Addr) (s : Shared) (ln who : List UInt8) (when sec : Int) (tl : Tok) (r : Addr) (news : Led) (f : Flow) (s' : Shared) : Prop := f = .next ∧
  ∃ (w' : List UInt8) (k' s₁ : Int) (b' : Bool) (ta tb tc td : Tok) (u : Str → Option Value), (w' = who ∨ w' ∈ PF.people) ∧ k'.natAbs ≤ when.natAbs + 10 ^ 20 ∧ s₁.natAbs ≤ sec.natAbs + 10 ^ 22 ∧ (b' = true → PF.plainF s₁ = true) ∧
    Leaves g L s s' (fun y => if y = Str.ofString "who" then some (.bytes w'.toArray ta) else if y = Str.ofString "when" then some (.int k' tb) else if y = Str.ofString "seconds" then some (.int s₁ tc) else if y = Str.ofString "minus" then some (.bool b')
      else if y = Str.ofString "made" then some (madeV ((lzF s₁ b').map fun z => w' ++ 32 :: (decI k' ++ 32 :: z)) td) else if y = Str.ofString "line" then some (.bytes ln.toArray tl) else if y = Str.ofString "record" then some (.ref r) else u y) news
@[elab_as_elim] theorem MovePost.use {g : Heap} {L : Addr} {s : Shared} {ln who : List UInt8} {when sec : Int} {tl : Tok} {r : Addr} {news : Led} {f : Flow} {s' : Shared} {MOT : Flow → Shared → Prop} (q : MovePost g L s ln who when sec tl r news f s')
    (k : ∀ (w' : List UInt8) (k' s₁ : Int) (b' : Bool) (ta tb tc td : Tok) (u : Str → Option Value), (w' = who ∨ w' ∈ PF.people) → k'.natAbs ≤ when.natAbs + 10 ^ 20 → s₁.natAbs ≤ sec.natAbs + 10 ^ 22 → (b' = true → PF.plainF s₁ = true) → ∀ (h' : Heap) (tk : Nat), Fr g L h' (fun y => if y = Str.ofString "who" then some (.bytes w'.toArray ta) else if y = Str.ofString "when" then some (.int k' tb) else if y = Str.ofString "seconds" then some (.int s₁ tc) else if y = Str.ofString "minus" then some (.bool b') else if y = Str.ofString "made" then some (madeV ((lzF s₁ b').map fun z => w' ++ 32 :: (decI k' ++ 32 :: z)) td) else if y = Str.ofString "line" then some (.bytes ln.toArray tl) else if y = Str.ofString "record" then some (.ref r) else u y) → News g L h' news → MOT .next { s with heap := h', toks := tk }) : MOT f s' := by
  obtain ⟨rfl, w', k', s₁, b', ta, tb, tc, td, u, c0, c1, c2, c3, h', tk, rfl, F, N⟩ := q
  exact k w' k' s₁ b' ta tb tc td u c0 c1 c2 c3 h' tk F N
noncomputable def ovr : List (Str × Value) → (Str → Option Value) → Str → Option Value
  | [], u => u
  | (x, v) :: r, u => fun y => if y = x then some v else ovr r u y
theorem ovr_eq {M : Str → Option Value} : ∀ {kv : List (Str × Value)}, (∀ p ∈ kv, M p.1 = some p.2) → ∀ y, ovr kv M y = M y
  | [], _, _ => rfl
  | (x, v) :: r, h, y => by
    show (if y = x then some v else ovr r M y) = M y
    split
    · rename_i q; rw [q]; exact (h _ (.head _)).symm
    · exact ovr_eq (fun p hp => h p (.tail _ hp)) y
theorem fr_ovr {g h : Heap} {L : Addr} {M : Str → Option Value} (kv : List (Str × Value)) (F : Fr g L h M) (hk : ∀ p ∈ kv, M p.1 = some p.2) : Fr g L h (ovr kv M) := fr_ext F (ovr_eq hk)
theorem move_post {g h' : Heap} {L : Addr} {s : Shared} {tk : Nat} {M : Str → Option Value} {ln who w' : List UInt8} {when sec k' s₁ : Int} {b' : Bool} {tl ta tb tc td : Tok} {r : Addr} {news : Led}
    (h1 : w' = who ∨ w' ∈ PF.people) (h2 : k'.natAbs ≤ when.natAbs + 10 ^ 20) (h3 : s₁.natAbs ≤ sec.natAbs + 10 ^ 22) (h4 : b' = true → PF.plainF s₁ = true) (F : Fr g L h' M) (N : News g L h' news)
    (hk : ∀ p ∈ ([(Str.ofString "who", Value.bytes w'.toArray ta), (Str.ofString "when", .int k' tb), (Str.ofString "seconds", .int s₁ tc), (Str.ofString "minus", .bool b'), (Str.ofString "made", madeV ((lzF s₁ b').map fun z => w' ++ 32 :: (decI k' ++ 32 :: z)) td), (Str.ofString "line", .bytes ln.toArray tl), (Str.ofString "record", .ref r)] : List (Str × Value)), M p.1 = some p.2) :
    MovePost g L s ln who when sec tl r news .next { s with heap := h', toks := tk } :=
  ⟨rfl, w', k', s₁, b', ta, tb, tc, td, M, h1, h2, h3, h4, h', tk, rfl, fr_ovr _ F hk, N⟩
set_option maxHeartbeats 1000000 in
theorem law_move (w : World) (mean : ExcName → Option Value) (mg mb : Str → Option Value) (fa : Addr) (cd : Value) (h₀ : Heap) (L : Addr) (m' : Str → Option Value) (news : Led) (s : Shared) (tl t1 t2 t3 t4 t5 t6 t7 : Tok) (r z : Addr) (ln who : List UInt8) (when sec kd rs : Int) (f : Bool)
    (hwho : who.length ≤ 490) (hwhen : when.natAbs < 10 ^ 50) (hsec : sec.natAbs < 10 ^ 53) (hk : kd < 4) :
    ∀ (st : List Stmt) (hst : st = (thenOf ((turnAt w).getD 3 (.Pass default))).take 5) (sc : Scope) (hsc : sc = scopeAt w 222)
    (B : Below callerA h₀ [] h₀) (X : (hd.heap_1 w.params).In h₀) (T : Top hd.view_1 (looseW hd.view_1 [Str.ofString "format_timezone"]) mean mg mb h₀)
    (F : Fr h₀ L s.heap (fun y => if y = Str.ofString "line" then some (.bytes ln.toArray tl) else if y = Str.ofString "record" then some (.ref r) else if y = Str.ofString "kind" then some (.int kd t4) else if y = Str.ofString "rest" then some (.int rs t5) else if y = Str.ofString "who" then some (.bytes who.toArray t6) else if y = Str.ofString "when" then some (.int when t7) else if y = Str.ofString "zone" then some (.ref z) else m' y))
    (N : News h₀ L s.heap ((r, tupO [.bytes who.toArray t1, .int when t2, .ref z]) :: (z, tupO [.int sec t3, .bool f]) :: news)),
    wpK (model Challenge.rw_ai0005_01.row.prog w) (callerA.deeper (envOf (Str.ofString "law") sc L fa cd)) (execs st (envOf (Str.ofString "law") sc L fa cd))
      (MovePost h₀ L s ln who when sec tl r ((r, tupO [.bytes who.toArray t1, .int when t2, .ref z]) :: (z, tupO [.int sec t3, .bool f]) :: news)) (fun _ _ => False) s := by
  k_fill
  intro st hst sc hsc B X T F N
  conv at hst => rhs; dsimp only [turnAt, thenOf, stAt, subS]
  conv at hst => rhs; whnf
  conv at hsc => rhs; whnf
  subst hst hsc
  refine wpK_execs_cons (wpK_of ?_)
  k_steps
  unfold Hold
  refine con_use (moved_con w mean mg mb _ _ _ _ _ _ _ _ _ _ _) (by k_asm) (by k_asm) (by k_asm) (by k_asm) (by k_asm) (by first | exact rfl | assumption) (by ktr_room) (by ktr_units) ?_
  intro v new h' tk' hR F'
  refine RetM.use hR ?_
  intro a9 w' k' s₁ b' t8 t9 ta hw' hk' hs' hb' N'
  clear hR
  dsimp only [List.singleton_append] at N'
  k_steps
  dsimp only
  refine wpK_execs_cons (wpK_of ?_)
  k_steps
  unfold Hold
  have hs60 : s₁.natAbs < 10 ^ 60 := omt (by assumption) (by assumption) rfl
  have hk60 : k'.natAbs < 10 ^ 60 := omt (by assumption) (by assumption) rfl
  have hwl : w'.length ≤ 490 := by
    rcases hw' with rfl | h
    · exact hwho
    · exact Nat.le_trans (PQ.people_short w' h) (by decide)
  have hwl6 : w'.length ≤ 600 := Nat.le_trans hwl (by decide)
  have hol := PH.octs_int_len (n := k') (Nat.lt_of_lt_of_le hk60 (by decide))
  refine con_use (lzone_con w mean mg mb _ _ hs60 _) (by k_asm) (by k_asm) (by k_asm) (by k_asm) (by k_asm) (by first | exact rfl | assumption) (by ktr_room) (by ktr_units) ?_
  intro v new h' tk' hR F' N'
  have hLM := fun ta' tb' tc' => line_made w mean mg mb w' ta' hwl6 k' tb' hk60 s₁ tc' hs60 b' hb'
  cases hz : lzF s₁ b' with
  | none =>
    rw [hz] at hR hLM
    obtain ⟨rfl, rfl⟩ := hR
    dsimp only [List.nil_append] at N'
    k_steps
    dsimp only
    refine wpK_execs_cons (wpK_of ?_)
    k_steps
    dsimp only
    refine wpK_execs_cons (wpK_Assign_Name (wpK_Call ?_))
    k_steps
    refine wpK_callWith (K := hd.heap_1 w.params) ?_ ?_
    · k_is
    k_steps
    refine hLM _ _ _ _ _ _ _ _ _ _ _ _ _ _ (by k_asm) (by k_asm) (by k_asm) (by k_asm) (by k_asm) rfl ?_
    intro v new h' tk' hR F' N'
    obtain ⟨rfl, rfl⟩ := hR
    dsimp only [List.nil_append] at N'
    k_steps
    dsimp only
    refine wpK_execs_cons (wpK_of ?_)
    k_steps
    dsimp only
    refine wpK_of ?_
    show wpAny _ _ (execs [] _) _ _ _
    k_steps
    exact move_post (td := 0) hw' hk' hs' hb' (by assumption) (by (first | (with_reducible assumption) | (refine news_sub (by assumption) (fun p hp => ?_); first | exact .tail _ hp | exact .tail _ (.tail _ hp)))) (by rw [hz]; kst_all)
  | some y =>
    have hyl := lz_len hs60 hz
    rw [hz] at hR hLM
    obtain ⟨t, rfl, rfl⟩ := hR
    dsimp only [List.nil_append] at N'
    k_steps
    dsimp only
    refine wpK_execs_cons (wpK_of ?_)
    k_steps
    dsimp only
    refine wpK_execs_cons (wpK_Assign_Name (wpK_Call ?_))
    k_steps
    refine wpK_callWith (K := hd.heap_1 w.params) ?_ ?_
    · k_is
    k_steps
    refine hLM _ _ _ _ _ _ _ _ _ _ _ _ _ _ (by k_asm) (by k_asm) (by k_asm) (by k_asm) (by k_asm) rfl ?_
    intro v new h' tk' hR F' N'
    obtain ⟨t, rfl, rfl⟩ := hR
    dsimp only [List.nil_append] at N'
    k_steps
    dsimp only
    refine wpK_execs_cons (wpK_of ?_)
    k_steps
    · exact absurd (show w' ++ 32 :: (decI k' ++ 32 :: y) = w' ++ [32] ++ BE.octs (Str.ofString (toString k')) ++ [32] ++ y by rw [PD.octs_int]; simp) (by assumption)
    · dsimp only
      refine wpK_of ?_
      show wpAny _ _ (execs [] _) _ _ _
      k_steps
      exact move_post hw' hk' hs' hb' (by assumption) (by (first | (with_reducible assumption) | (refine news_sub (by assumption) (fun p hp => ?_); first | exact .tail _ hp | exact .tail _ (.tail _ hp)))) (by rw [hz]; kst_all)
end
section
open _root_.PySem _root_.PySem.W _root_.PySem.Spec _root_.PySem.Calls _root_.PyProof.Rows
theorem told_LC : True := by
  k_with_none
  w_top off
  k_with "own omega" => (with_reducible first | exact om6 (by assumption) rfl | exact om0 (by assumption) | exact om2 (by assumption) rfl | exact om3 (by assumption) rfl | exact om4 (by assumption) rfl | exact Int.emod_nonneg _ (by decide) | exact Int.emod_lt_of_pos _ (by decide) | exact om8 (by assumption) rfl | exact om9 (by assumption) rfl)
  k_with "storeName" => ((k_here; k_dflt (first | ((with_reducible show wpAny _ _ (storeName _ _ (Value.int _ _)) _ _ _); refine storeG_int (by k_asm) (by k_asm) ?_ (by rfl) (by rfl); intro hq9 tq9 kq9 Fq9 Nq9) | ((with_reducible show wpAny _ _ (storeName _ _ (Value.bytes _ _)) _ _ _); refine storeG_bytes (by k_asm) (by k_asm) ?_ (by rfl) (by rfl); intro hq9 tq9 kq9 Fq9 Nq9) | (refine storeG_any (by k_asm) (by k_asm) ?_ (by rfl) (by rfl); intro hq9 kq9 Fq9 Nq9)); (try k_sweep)))
  k_with "Go" => (refine go_on (by assumption) ?_)
  k_with "own kby_size" => ((first | assumption | omega | (simp only [List.length_append, List.length_cons, List.length_nil] at *; omega)))
  k_with "subscriptTail" => ((k_here; (with_reducible show wpAny _ _ (subscriptTail _ (Expr.Slice _ _ none _) (Value.bytes (List.toArray _) _) (Value.ref _)) _ _ _); (with_reducible rename Fr _ _ _ _ => Fq9); (with_reducible rename News _ _ _ _ => Nq9); (refine BY.slice_L (s := ⟨_, _, _, _, _⟩) Fq9 Nq9 (by constructor) (by constructor) (by kby_size) ?_); intro _ _ _ Fq9 Nq9 hlenq9))
  k_with "binaryOp Add bytes bytes" => ((k_here; (with_reducible show wpAny _ _ (binaryOp Operator.Add (Value.bytes (List.toArray _) _) (Value.bytes (List.toArray _) _)) _ _ _); (refine BY.add_L (by kby_size) ?_); intro _ _))
  k_with "compareOp Eq bytes bytes" => ((k_here; (with_reducible show wpAny _ _ (compareOp CmpOp.Eq (Value.bytes (List.toArray _) _) (Value.bytes (List.toArray _) _)) _ _ _); (refine BY.eq_L ?_)))
  k_with "compareOp NotEq bytes bytes" => ((k_here; (with_reducible show wpAny _ _ (compareOp CmpOp.NotEq (Value.bytes (List.toArray _) _) (Value.bytes (List.toArray _) _)) _ _ _); (refine BY.ne_L ?_)))
  k_with "subscriptTail" => ((k_here; (with_reducible show wpAny _ _ (subscriptTail _ _ (Value.bytes (List.toArray _) _) (Value.int _ _)) _ _ _); (refine BY.item_L (by kby_size) (by first | decide | omega) (by first | omega | (simp only [List.length_append, List.length_cons, List.length_nil] at *; omega)) ?_); intro _ _))
  k_with "compareOp NotIn int bytes" => ((k_here; (with_reducible show wpAny _ _ (compareOp CmpOp.NotIn (Value.int _ _) (Value.bytes (List.toArray _) _)) _ _ _); (refine BY.notIn_B ?_)))
  k_with "call type:int" => ((k_here; (with_reducible show wpAny _ _ (call (Value.type "int") [Value.bytes (List.toArray _) _]) _ _ _); (refine IR.call_int_bytes (by assumption) (by assumption) ?_)))
  k_with "getMethod bytes" => ((k_here; first | (with_reducible refine BW.meth_rindex ?_) | (with_reducible refine BW.meth_rsplit ?_) | (with_reducible refine BW.meth_split ?_) | (with_reducible refine BW.meth_join ?_)))
  k_with "call builtin:bytes.rindex" => ((k_here; first
  | (refine BW.rindex_found (by with_reducible assumption) ?_; intro _ _)
  | (refine BW.rindex_not (by with_reducible assumption) (by first | exact rfl | assumption) ?_; intro _ _ _ _ hxq9)))
  k_with "call builtin:bytes.rsplit" => ((k_here; first
  | (refine BW.rsplit_two (by k_asm) (by k_asm) (by kby_size) (by with_reducible assumption) ?_; intro Dq9 t1q9 t2q9 hq9 kq9 Fq9 Nq9 l1q9; (try k_lt l1q9))
  | (refine BW.rsplit_one (by k_asm) (by k_asm) (by kby_size) (by with_reducible assumption) ?_; intro Dq9 t1q9 hq9 kq9 Fq9 Nq9 l1q9; (try k_lt l1q9))))
  k_with "call builtin:bytes.split" => ((k_here; (refine BW.split_L (by k_asm) (by k_asm) (by kby_size) ?_); intro Dq9 vsq9 hq9 kq9 hvsq9 Fq9 Nq9 l1q9; (try k_lt l1q9)))
  k_with "call builtin:bytes.join" => ((k_here; (refine BW.join_L (News.isList (by k_asm) (by k_mem)) (by with_reducible assumption) (by kby_size) ?_); intro _ _))
  k_with "assign Tuple" => ((k_here; (with_reducible show wpAny _ _ (assign (Expr.Tuple _ _ _) _ (Value.ref _)) _ _ _); (refine BW.unpack_one (News.isList (by k_asm) (by k_mem)) (by exact rfl) (by exact rfl) (by exact rfl) ?_); intro _ _ _ _ hxq9))
  k_with "subscriptTail" => ((k_here; (with_reducible show wpAny _ _ (subscriptTail _ _ (Value.ref _) (Value.int _ _)) _ _ _); (refine BW.item_BL (News.isList (by k_asm) (by k_mem)) (by with_reducible assumption) (by first | assumption | omega) (by first | assumption | omega) (by first | assumption | omega) ?_); intro _))
  k_with "noteFrame ref" => ((k_here; k_dflt ((with_reducible rename Heap.MadeExc _ _ _ _ _ => hxMq9); (refine look_made2 (Heap.MadeExc.of hxMq9) (by k_asm) (by k_asm) (by assumption) ?_); clear hxMq9; intro hq9 tq9 Gq9 Fq9 Rq9 alq9 Uq9; (try dsimp only at Rq9 Uq9 ⊢))))
  k_with "leaving ref" => ((k_here; k_dflt ((with_reducible rename KtsDicts _ _ => kdX); (with_reducible rename Heap.MadeExc _ _ _ _ _ => hxMq9); (refine leave_raise2 (by assumption) (Heap.MadeExc.of hxMq9) (by assumption) (by k_asm) ?_); intro hq9 tq9 Sq9 alq9 Uq9; (have Rq9 := RaisedS.toK Sq9); (try dsimp only at Sq9 Rq9 Uq9 ⊢))))
  k_with "noteFrame ref" => ((k_here; k_dflt ((rename RaisedS _ _ _ _ _ _ _ _ _ => rsX); (with_reducible rename Alone _ _ => alX); (with_reducible show wpAny _ _ (noteFrame _ _) (fun _ s₂ => wpAny _ _ (setFlight _ none) (fun _ s₃ => wpAny _ _ (handleBy _ _ [ExceptHandler.ExceptHandler _ (some _) [Stmt.Raise (some _) (some _) _] _]) _ _ s₃) _ s₂) _ _); (refine look_on2 rsX alX (by assumption) (by assumption) ?_); intro hq9 Rq9 alq9 Uq9; (try dsimp only at Rq9 Uq9 ⊢))))
  k_with "handleBy ref" => ((k_here; k_dflt ((with_reducible rename Alone _ _ => alX); (refine hit2 (by assumption) alX (by assumption) (by assumption) (by assumption) (by assumption) (by assumption) (by assumption) (by kts_test) PySem.F.excBase_Exception PySem.F.excRaise_ValueError (by k_is) (by k_exc) ?_ (fun _ _ hh => hh)); intro hq9 tkq9 e2q9 t2q9 Rq9 RKq9 Uq9; (try dsimp only at Rq9 RKq9 Uq9 ⊢))))
  k_with "getMethod str" => ((k_here; (with_reducible refine BE.meth_encode ?_)))
  k_with "binaryOp Mod str ref" => ((k_here; (with_reducible show wpAny _ _ (binaryOp Operator.Mod (Value.str _ _) (Value.ref _)) _ _ _); k_dflt ((refine BF.fmt_rule (by k_asm) (by k_mem) (by decide +kernel) (by first | exact PG.fd1 (by omega) | exact PG.fd2 (by omega)) PG.fd3 ?_); intro _ _)))
  k_with "call builtin:str.encode" => ((k_here; k_dflt ((refine BE.encode (BF.ascii_fmt _ _ (by decide +kernel)) (BF.size_fmt (by decide +kernel) (by first | exact PG.fd1 (by omega) | exact PG.fd2 (by omega)) PG.fd3) ?_); intro _ _)))
  k_with "call type:str" => ((k_here; k_dflt (refine P.str_of_int (BF.log_lt (by omega)) ?_)))
  k_with "call builtin:str.encode" => ((k_here; k_dflt ((refine BE.encode (BF.ascii_int _) (PH.size_int (by omega)) ?_); intro _ _)))
  k_with "call builtin:bytes.join" => ((k_here; k_dflt ((refine BW.join_L (News.isList (by k_asm) (by k_mem)) (bytesAre_cons (bytesAre_cons (bytesAre_cons bytesAre_nil))) (PH.join3 (by assumption) (Nat.le_trans (PH.octs_int_len (by omega)) (by decide)) (Nat.le_trans (PH.octs_fmt_len (by decide +kernel) (by first | exact PG.fd1 (by omega) | exact PG.fd2 (by omega)) PG.fd3) (by decide))) ?_); intro _ _)))
  k_with "subscriptTail" => ((k_here; (with_reducible show wpAny _ _ (subscriptTail _ (PySem.Expr.Slice _ _ none _) (Value.ref _) (Value.ref _)) _ _ _); k_dflt (first
  | (refine BS.slice_from (by k_asm) (by k_asm) (News.isList (by k_asm) (by k_mem)) (by with_reducible assumption) (by constructor) (by constructor) (by omega) (by (try simp only [List.length_drop, List.length_take]); omega) ?_)
  | (refine BS.slice_upto (by k_asm) (by k_asm) (News.isList (by k_asm) (by k_mem)) (by with_reducible assumption) (by constructor) (by constructor) (by omega) (by (try simp only [List.length_drop, List.length_take]); omega) ?_)
  | (refine BS.slice_less (by k_asm) (by k_asm) (News.isList (by k_asm) (by k_mem)) (by with_reducible assumption) (by constructor) (by constructor) (by (try simp only [List.length_drop, List.length_take]); omega) ?_)); intro Dq9 wsq9 hq9 hvsq9 Fq9 Nq9 l1q9; (try k_lt l1q9)))
  k_with "subscriptTail" => ((k_here; (with_reducible show wpAny _ _ (subscriptTail _ _ (Value.ref _) (Value.int (-1) _)) _ _ _); (refine BS.item_last (News.isList (by k_asm) (by k_mem)) (by with_reducible assumption) (by first | assumption | omega) (by first | assumption | omega) ?_); intro _))
  k_with "call builtin:len" => ((k_here; (with_reducible show wpAny _ _ (call (Value.builtin "len") [Value.ref _]) _ _ _); (refine BS.len_B (News.isList (by k_asm) (by k_mem)) (by with_reducible assumption) (by (try simp only [List.length_drop, List.length_take]); omega) ?_); intro _ _))
  k_with "call builtin:divmod" => ((k_here; (with_reducible show wpAny _ _ (call (Value.builtin _) [Value.int _ _, Value.int _ _]) _ _ _); (refine divmod_K (by k_asm) (by k_asm) (by first | assumption | omega) (by assumption) ?_); intro Dq9 hq9 _ _ _ Fq9 Nq9 l1q9; (try k_lt l1q9)))
  trivial
theorem told_LC_29 : True := by
  k_with "eval Call" => ((k_here; (with_reducible show wpAny _ _ (eval (PySem.Expr.Call (PySem.Expr.Name _ _) _ _ _) _) _ _ _); refine Call_ ?_))
  trivial
local macro_rules | `(tactic| walk_at "pyIter ref") => `(tactic| (k_here; refine hold ?_))
theorem isTupH {h₀ h : Heap} {L : Addr} {news : Led} (N : News h₀ L h news) {a : Addr} {vs : List Value} (hm : (a, tupO vs) ∈ news) : h.IsTuple a vs.toArray := ⟨_, (N _ hm).1, rfl, _, rfl⟩
theorem news_swap {h₀ h : Heap} {L : Addr} {a b : Led} (N : News h₀ L h (a ++ b)) : News h₀ L h (b ++ a) := fun p hp => N p ((List.mem_append.mp hp).elim (List.mem_append_right _) (List.mem_append_left _))
theorem news_back {h₀ h : Heap} {L : Addr} {a b c d e f : Addr × Obj} {l own : Led} (N : News h₀ L h (a :: b :: c :: d :: e :: f :: (l ++ own))) : News h₀ L h (own ++ a :: b :: c :: d :: e :: f :: l) := fun p hp => N p (by
  have k : ∀ p ∈ a :: b :: c :: d :: e :: f :: l, p ∈ a :: b :: c :: d :: e :: f :: (l ++ own) := by
    (repeat refine sub_cons (by repeat (first | exact .head _ | refine .tail _ ?_)) ?_)
    exact fun _ h => .tail _ (.tail _ (.tail _ (.tail _ (.tail _ (.tail _ (List.mem_append_left own h))))))
  exact (List.mem_append.mp hp).elim (fun h => .tail _ (.tail _ (.tail _ (.tail _ (.tail _ (.tail _ (List.mem_append_right l h))))))) (k p))
noncomputable abbrev kvMove (w' ln : List UInt8) (k' s₁ : Int) (b' : Bool) (mv : Value) (ta tb tc tl : Tok) (r : Addr) : List (Str × Value) :=
  [(Str.ofString "who", Value.bytes w'.toArray ta), (Str.ofString "when", .int k' tb), (Str.ofString "seconds", .int s₁ tc), (Str.ofString "minus", .bool b'), (Str.ofString "made", mv), (Str.ofString "line", .bytes ln.toArray tl), (Str.ofString "record", .ref r)]
noncomputable def KvPost (g : Heap) (L : Addr) (s : Shared) (kv : List (Str × Value)) (news : Led) (f : Flow) (s' : Shared) : Prop := f = .next ∧ ∃ u, Leaves g L s s' (ovr kv u) news
@[elab_as_elim] theorem KvPost.use {g : Heap} {L : Addr} {s : Shared} {kv : List (Str × Value)} {news : Led} {f : Flow} {s' : Shared} {MOT : Flow → Shared → Prop} (q : KvPost g L s kv news f s')
    (k : ∀ u, ∀ (h' : Heap) (tk : Nat), Fr g L h' (ovr kv u) → News g L h' news → MOT .next { s with heap := h', toks := tk }) : MOT f s' := by
  obtain ⟨rfl, u, h', tk, rfl, F, N⟩ := q
  exact k u h' tk F N
set_option maxHeartbeats 1000000 in
theorem law_three (w : World) (mean : ExcName → Option Value) (mg mb : Str → Option Value) (fa : Addr) (cd : Value) (h₀ : Heap) (L : Addr) (m' : Str → Option Value) (news : Led) (s : Shared) (ta tb tc tl t1 t2 t3 : Tok) (r z : Addr) (ln w' who : List UInt8) (when sec k' s₁ : Int) (f b' : Bool) (mv : Value)
    (hs : s₁.natAbs < 10 ^ 58) :
    ∀ (st : Stmt) (hst : st = (thenOf ((turnAt w).getD 3 (.Pass default))).getD 5 (.Pass default)) (sc : Scope) (hsc : sc = scopeAt w 222)
    (B : Below callerA h₀ [] h₀) (X : (hd.heap_1 w.params).In h₀) (T : Top hd.view_1 (looseW hd.view_1 [Str.ofString "format_timezone"]) mean mg mb h₀)
    (F : Fr h₀ L s.heap (fun y => if y = Str.ofString "who" then some (.bytes w'.toArray ta) else if y = Str.ofString "when" then some (.int k' tb) else if y = Str.ofString "seconds" then some (.int s₁ tc) else if y = Str.ofString "minus" then some (.bool b')
      else if y = Str.ofString "made" then some mv else if y = Str.ofString "line" then some (.bytes ln.toArray tl) else if y = Str.ofString "record" then some (.ref r) else m' y))
    (N : News h₀ L s.heap ((r, tupO [.bytes who.toArray t1, .int when t2, .ref z]) :: (z, tupO [.int sec t3, .bool f]) :: news)),
    wpK (model Challenge.rw_ai0005_01.row.prog w) (callerA.deeper (envOf (Str.ofString "law") sc L fa cd)) (exec st (envOf (Str.ofString "law") sc L fa cd))
      (KvPost h₀ L s (kvMove w' ln k' s₁ b' mv ta tb tc tl r) ((r, tupO [.bytes who.toArray t1, .int when t2, .ref z]) :: (z, tupO [.int sec t3, .bool f]) :: news)) (fun _ _ => False) s := by
  k_fill
  intro st hst sc hsc B X T F N
  conv at hst => rhs; whnf
  conv at hsc => rhs; whnf
  subst hst hsc
  refine wpK_For ?_
  k_steps
  unfold Hold
  rename Fr _ _ _ _ => F'
  rename News _ _ _ _ => N'
  have hT := isTupH (vs := [.ref _, .ref _, .ref _]) N' (.head _)
  refine wpAny_pyIter_tuple hT ?_
  obtain ⟨oT, hoT, _⟩ := id hT
  have hlt := Heap.lt_size hoT
  refine codeK_seq (L := L) (h₀ := h₀) (fun _ m nx => nx = _ ∧ ∀ p ∈ kvMove w' ln k' s₁ b' mv ta tb tc tl r, m p.1 = some p.2) (Walks.tuple rfl _ _ (Nat.ne_of_lt hlt) _) ?hIt ?hax ?nIt ?nax ?LIt ?Lax ?apart ?turn ?done (F'.push _) (fun p hp => ⟨Heap.get?_push_of_some _ (N' p hp).1, (N' p hp).2⟩) ⟨⟨_, Heap.get?_push_size _ rfl, rfl, rfl⟩, hT.at fun o e => Heap.get?_push_of_some _ e⟩ ⟨rfl, by kst_all⟩ ?hgo
  case hgo => exact fun i v s Q E q hq => go_tuple q.1 hq
  case hIt => exact fun i h q => ⟨_, q.1.choose_spec.1⟩
  case hax => exact fun i h q => ⟨_, q.2.choose_spec.1⟩
  case nIt => exact next_is_new F'
  case nax => exact (N' _ (.head _)).2.2
  case LIt => exact fun q => absurd F'.ns.lt (q ▸ Nat.lt_irrefl _)
  case Lax => exact (N' _ (.head _)).2.1
  case apart => exact fun i h m nx _ q _ p hp => by rw [q.1] at hp; exact Nat.ne_of_lt (Heap.lt_size (N' p hp).1)
  case turn =>
    intro i v m nx h tk own hi hP hJ F1 N1
    obtain ⟨rfl, hkv⟩ := hJ
    have F2 := fr_ovr _ F1 hkv
    have N2 := news_swap N1
    clear F1 N1
    dsimp only [ovr] at F2
    dsimp only [List.cons_append] at N2
    have hm0 : 0 ≤ k'.fmod 59 := by rw [Int.fmod_eq_emod_of_nonneg _ (by decide)]; omega
    have hm1 : k'.fmod 59 < 59 := by rw [Int.fmod_eq_emod_of_nonneg _ (by decide)]; omega
    have hb1 : s₁.natAbs < 10 ^ 60 := by omega
    have hb2 : (-s₁).natAbs < 10 ^ 60 := omn4 (by assumption) rfl
    have hb3 := l3b (s := s₁) (by assumption) hm0 hm1
    have hi3 := lt3 hi
    obtain ⟨off, fl, D, t', rfl, hmem, hbd⟩ : ∃ (off : Int) (fl : Bool) (D : Addr) (t' : Tok), v = .ref D ∧ h.get? D = some (tupO [.int off t', .bool fl]) ∧ off.natAbs < 10 ^ 60 := by
      rcases hi3 with rfl | rfl | rfl
      · exact ⟨_, _, _, _, (Option.some.inj hP).symm, (N2 _ (.tail _ (.tail _ (.tail _ (.head _))))).1, hb1⟩
      · exact ⟨_, _, _, _, (Option.some.inj hP).symm, (N2 _ (.tail _ (.tail _ (.head _)))).1, hb2⟩
      · exact ⟨_, _, _, _, (Option.some.inj hP).symm, (N2 _ (.tail _ (.head _))).1, hb3⟩
    clear hb1 hb2 hb3 hm0 hm1 hi3 hP
    refine unpackN_ F2 N2 ⟨_, hmem, rfl, _, rfl⟩ rfl rfl rfl ?_
    intro h' F' N'
    clear F2 N2
    try k_fold
    k_steps
    refine wpK_execs_cons (wpK_If (wpK_isTrue_not ?_))
    refine wpK_isTrue_plain ?_
    refine wpK_Call ?_
    k_steps
    refine wpK_callWith (K := hd.heap_1 w.params) ?_ ?_
    · k_is
    k_steps
    refine there_con w mean mg mb _ _ _ (by assumption) _ _ _ _ _ _ _ _ _ _ _ (by k_asm) (by k_asm) (by k_asm) (by k_asm) (by k_asm) rfl ?_
    intro v new h' tk' hR F' N'
    obtain ⟨rfl, rfl⟩ := hR
    dsimp only [List.nil_append] at N'
    k_steps
    refine wpK_of ?_
    k_steps
    dsimp only
    refine wpK_of ?_
    show wpAny _ _ (execs [] _) _ _ _
    k_steps
    exact ⟨_, _, _, _, rfl, by assumption, news_back (by assumption), rfl, by kst_all⟩
  case done =>
    intro m nx h tk hJ F1 N1
    obtain ⟨rfl, hkv⟩ := hJ
    exact ⟨rfl, m, h, tk, rfl, fr_ovr _ F1 hkv, news_sub N1 (fun p hp => .tail _ (.tail _ (.tail _ (.tail _ hp))))⟩
end
section
open _root_.PySem _root_.PySem.W _root_.PySem.Spec _root_.PySem.Calls _root_.PyProof.Rows
theorem told_LE : True := by
  k_with_none
  w_top off
  k_with "own omega" => (with_reducible first | exact om6 (by assumption) rfl | exact om0 (by assumption) | exact om2 (by assumption) rfl | exact om3 (by assumption) rfl | exact om4 (by assumption) rfl | exact Int.emod_nonneg _ (by decide) | exact Int.emod_lt_of_pos _ (by decide) | exact om8 (by assumption) rfl | exact om9 (by assumption) rfl)
  k_with "storeName" => ((k_here; k_dflt (first | ((with_reducible show wpAny _ _ (storeName _ _ (Value.int _ _)) _ _ _); refine storeG_int (by k_asm) (by k_asm) ?_ (by rfl) (by rfl); intro hq9 tq9 kq9 Fq9 Nq9) | ((with_reducible show wpAny _ _ (storeName _ _ (Value.bytes _ _)) _ _ _); refine storeG_bytes (by k_asm) (by k_asm) ?_ (by rfl) (by rfl); intro hq9 tq9 kq9 Fq9 Nq9) | (refine storeG_any (by k_asm) (by k_asm) ?_ (by rfl) (by rfl); intro hq9 kq9 Fq9 Nq9)); (try k_sweep)))
  k_with "Go" => (refine go_on (by assumption) ?_)
  k_with "own kby_size" => ((first | assumption | omega | (simp only [List.length_append, List.length_cons, List.length_nil] at *; omega)))
  k_with "subscriptTail" => ((k_here; (with_reducible show wpAny _ _ (subscriptTail _ (Expr.Slice _ _ none _) (Value.bytes (List.toArray _) _) (Value.ref _)) _ _ _); (with_reducible rename Fr _ _ _ _ => Fq9); (with_reducible rename News _ _ _ _ => Nq9); (refine BY.slice_L (s := ⟨_, _, _, _, _⟩) Fq9 Nq9 (by constructor) (by constructor) (by kby_size) ?_); intro _ _ _ Fq9 Nq9 hlenq9))
  k_with "binaryOp Add bytes bytes" => ((k_here; (with_reducible show wpAny _ _ (binaryOp Operator.Add (Value.bytes (List.toArray _) _) (Value.bytes (List.toArray _) _)) _ _ _); (refine BY.add_L (by kby_size) ?_); intro _ _))
  k_with "compareOp Eq bytes bytes" => ((k_here; (with_reducible show wpAny _ _ (compareOp CmpOp.Eq (Value.bytes (List.toArray _) _) (Value.bytes (List.toArray _) _)) _ _ _); (refine BY.eq_L ?_)))
  k_with "compareOp NotEq bytes bytes" => ((k_here; (with_reducible show wpAny _ _ (compareOp CmpOp.NotEq (Value.bytes (List.toArray _) _) (Value.bytes (List.toArray _) _)) _ _ _); (refine BY.ne_L ?_)))
  k_with "subscriptTail" => ((k_here; (with_reducible show wpAny _ _ (subscriptTail _ _ (Value.bytes (List.toArray _) _) (Value.int _ _)) _ _ _); (refine BY.item_L (by kby_size) (by first | decide | omega) (by first | omega | (simp only [List.length_append, List.length_cons, List.length_nil] at *; omega)) ?_); intro _ _))
  k_with "compareOp NotIn int bytes" => ((k_here; (with_reducible show wpAny _ _ (compareOp CmpOp.NotIn (Value.int _ _) (Value.bytes (List.toArray _) _)) _ _ _); (refine BY.notIn_B ?_)))
  k_with "call type:int" => ((k_here; (with_reducible show wpAny _ _ (call (Value.type "int") [Value.bytes (List.toArray _) _]) _ _ _); (refine IR.call_int_bytes (by assumption) (by assumption) ?_)))
  k_with "getMethod bytes" => ((k_here; first | (with_reducible refine BW.meth_rindex ?_) | (with_reducible refine BW.meth_rsplit ?_) | (with_reducible refine BW.meth_split ?_) | (with_reducible refine BW.meth_join ?_)))
  k_with "call builtin:bytes.rindex" => ((k_here; first
  | (refine BW.rindex_found (by with_reducible assumption) ?_; intro _ _)
  | (refine BW.rindex_not (by with_reducible assumption) (by first | exact rfl | assumption) ?_; intro _ _ _ _ hxq9)))
  k_with "call builtin:bytes.rsplit" => ((k_here; first
  | (refine BW.rsplit_two (by k_asm) (by k_asm) (by kby_size) (by with_reducible assumption) ?_; intro Dq9 t1q9 t2q9 hq9 kq9 Fq9 Nq9 l1q9; (try k_lt l1q9))
  | (refine BW.rsplit_one (by k_asm) (by k_asm) (by kby_size) (by with_reducible assumption) ?_; intro Dq9 t1q9 hq9 kq9 Fq9 Nq9 l1q9; (try k_lt l1q9))))
  k_with "call builtin:bytes.split" => ((k_here; (refine BW.split_L (by k_asm) (by k_asm) (by kby_size) ?_); intro Dq9 vsq9 hq9 kq9 hvsq9 Fq9 Nq9 l1q9; (try k_lt l1q9)))
  k_with "call builtin:bytes.join" => ((k_here; (refine BW.join_L (News.isList (by k_asm) (by k_mem)) (by with_reducible assumption) (by kby_size) ?_); intro _ _))
  k_with "assign Tuple" => ((k_here; (with_reducible show wpAny _ _ (assign (Expr.Tuple _ _ _) _ (Value.ref _)) _ _ _); (refine BW.unpack_one (News.isList (by k_asm) (by k_mem)) (by exact rfl) (by exact rfl) (by exact rfl) ?_); intro _ _ _ _ hxq9))
  k_with "subscriptTail" => ((k_here; (with_reducible show wpAny _ _ (subscriptTail _ _ (Value.ref _) (Value.int _ _)) _ _ _); (refine BW.item_BL (News.isList (by k_asm) (by k_mem)) (by with_reducible assumption) (by first | assumption | omega) (by first | assumption | omega) (by first | assumption | omega) ?_); intro _))
  k_with "noteFrame ref" => ((k_here; k_dflt ((with_reducible rename Heap.MadeExc _ _ _ _ _ => hxMq9); (refine look_made2 (Heap.MadeExc.of hxMq9) (by k_asm) (by k_asm) (by assumption) ?_); clear hxMq9; intro hq9 tq9 Gq9 Fq9 Rq9 alq9 Uq9; (try dsimp only at Rq9 Uq9 ⊢))))
  k_with "leaving ref" => ((k_here; k_dflt ((with_reducible rename KtsDicts _ _ => kdX); (with_reducible rename Heap.MadeExc _ _ _ _ _ => hxMq9); (refine leave_raise2 (by assumption) (Heap.MadeExc.of hxMq9) (by assumption) (by k_asm) ?_); intro hq9 tq9 Sq9 alq9 Uq9; (have Rq9 := RaisedS.toK Sq9); (try dsimp only at Sq9 Rq9 Uq9 ⊢))))
  k_with "noteFrame ref" => ((k_here; k_dflt ((rename RaisedS _ _ _ _ _ _ _ _ _ => rsX); (with_reducible rename Alone _ _ => alX); (with_reducible show wpAny _ _ (noteFrame _ _) (fun _ s₂ => wpAny _ _ (setFlight _ none) (fun _ s₃ => wpAny _ _ (handleBy _ _ [ExceptHandler.ExceptHandler _ (some _) [Stmt.Raise (some _) (some _) _] _]) _ _ s₃) _ s₂) _ _); (refine look_on2 rsX alX (by assumption) (by assumption) ?_); intro hq9 Rq9 alq9 Uq9; (try dsimp only at Rq9 Uq9 ⊢))))
  k_with "handleBy ref" => ((k_here; k_dflt ((with_reducible rename Alone _ _ => alX); (refine hit2 (by assumption) alX (by assumption) (by assumption) (by assumption) (by assumption) (by assumption) (by assumption) (by kts_test) PySem.F.excBase_Exception PySem.F.excRaise_ValueError (by k_is) (by k_exc) ?_ (fun _ _ hh => hh)); intro hq9 tkq9 e2q9 t2q9 Rq9 RKq9 Uq9; (try dsimp only at Rq9 RKq9 Uq9 ⊢))))
  k_with "getMethod str" => ((k_here; (with_reducible refine BE.meth_encode ?_)))
  k_with "binaryOp Mod str ref" => ((k_here; (with_reducible show wpAny _ _ (binaryOp Operator.Mod (Value.str _ _) (Value.ref _)) _ _ _); k_dflt ((refine BF.fmt_rule (by k_asm) (by k_mem) (by decide +kernel) (by first | exact PG.fd1 (by omega) | exact PG.fd2 (by omega)) PG.fd3 ?_); intro _ _)))
  k_with "call builtin:str.encode" => ((k_here; k_dflt ((refine BE.encode (BF.ascii_fmt _ _ (by decide +kernel)) (BF.size_fmt (by decide +kernel) (by first | exact PG.fd1 (by omega) | exact PG.fd2 (by omega)) PG.fd3) ?_); intro _ _)))
  k_with "call type:str" => ((k_here; k_dflt (refine P.str_of_int (BF.log_lt (by omega)) ?_)))
  k_with "call builtin:str.encode" => ((k_here; k_dflt ((refine BE.encode (BF.ascii_int _) (PH.size_int (by omega)) ?_); intro _ _)))
  k_with "call builtin:bytes.join" => ((k_here; k_dflt ((refine BW.join_L (News.isList (by k_asm) (by k_mem)) (bytesAre_cons (bytesAre_cons (bytesAre_cons bytesAre_nil))) (PH.join3 (by assumption) (Nat.le_trans (PH.octs_int_len (by omega)) (by decide)) (Nat.le_trans (PH.octs_fmt_len (by decide +kernel) (by first | exact PG.fd1 (by omega) | exact PG.fd2 (by omega)) PG.fd3) (by decide))) ?_); intro _ _)))
  k_with "subscriptTail" => ((k_here; (with_reducible show wpAny _ _ (subscriptTail _ (PySem.Expr.Slice _ _ none _) (Value.ref _) (Value.ref _)) _ _ _); k_dflt (first
  | (refine BS.slice_from (by k_asm) (by k_asm) (News.isList (by k_asm) (by k_mem)) (by with_reducible assumption) (by constructor) (by constructor) (by omega) (by (try simp only [List.length_drop, List.length_take]); omega) ?_)
  | (refine BS.slice_upto (by k_asm) (by k_asm) (News.isList (by k_asm) (by k_mem)) (by with_reducible assumption) (by constructor) (by constructor) (by omega) (by (try simp only [List.length_drop, List.length_take]); omega) ?_)
  | (refine BS.slice_less (by k_asm) (by k_asm) (News.isList (by k_asm) (by k_mem)) (by with_reducible assumption) (by constructor) (by constructor) (by (try simp only [List.length_drop, List.length_take]); omega) ?_)); intro Dq9 wsq9 hq9 hvsq9 Fq9 Nq9 l1q9; (try k_lt l1q9)))
  k_with "subscriptTail" => ((k_here; (with_reducible show wpAny _ _ (subscriptTail _ _ (Value.ref _) (Value.int (-1) _)) _ _ _); (refine BS.item_last (News.isList (by k_asm) (by k_mem)) (by with_reducible assumption) (by first | assumption | omega) (by first | assumption | omega) ?_); intro _))
  k_with "call builtin:len" => ((k_here; (with_reducible show wpAny _ _ (call (Value.builtin "len") [Value.ref _]) _ _ _); (refine BS.len_B (News.isList (by k_asm) (by k_mem)) (by with_reducible assumption) (by (try simp only [List.length_drop, List.length_take]); omega) ?_); intro _ _))
  k_with "call builtin:divmod" => ((k_here; (with_reducible show wpAny _ _ (call (Value.builtin _) [Value.int _ _, Value.int _ _]) _ _ _); (refine divmod_K (by k_asm) (by k_asm) (by first | assumption | omega) (by assumption) ?_); intro Dq9 hq9 _ _ _ Fq9 Nq9 l1q9; (try k_lt l1q9)))
  trivial
theorem told_LE_30 : True := by
  k_with "eval Call" => ((k_here; (with_reducible show wpAny _ _ (eval (PySem.Expr.Call (PySem.Expr.Name _ _) _ _ _) _) _ _ _); refine Call_ ?_))
  k_with "call ref" => ((k_here; (with_reducible show wpAny _ _ (call (Value.ref 159) _) _ _ _); refine hold ?_))
  trivial
noncomputable def EntryPost (g : Heap) (L : Addr) (s : Shared) (P : List UInt8 → List UInt8 → Int → Int → Bool → Prop) (news : Led) (f : Flow) (s' : Shared) : Prop := f = .next ∧
  ∃ (ln who : List UInt8) (when sec kw : Int) (fl : Bool) (r z : Addr) (tl t1 t2 t3 tw : Tok) (u : Str → Option Value), P ln who when sec fl ∧
    Leaves g L s s' (ovr [(Str.ofString "when", .int kw tw), (Str.ofString "line", .bytes ln.toArray tl), (Str.ofString "record", .ref r)] u) ((r, tupO [.bytes who.toArray t1, .int when t2, .ref z]) :: (z, tupO [.int sec t3, .bool fl]) :: news)
theorem EntryPost.mk {g : Heap} {L : Addr} {s : Shared} {P : List UInt8 → List UInt8 → Int → Int → Bool → Prop} {news : Led} {ln who : List UInt8} {when sec kw : Int} {fl : Bool} {r z : Addr} {tl t1 t2 t3 tw : Tok} {u : Str → Option Value} {h' : Heap} {tk : Nat} (c0 : P ln who when sec fl) (F : Fr g L h' (ovr [(Str.ofString "when", .int kw tw), (Str.ofString "line", .bytes ln.toArray tl), (Str.ofString "record", .ref r)] u)) (N : News g L h' ((r, tupO [.bytes who.toArray t1, .int when t2, .ref z]) :: (z, tupO [.int sec t3, .bool fl]) :: news)) : EntryPost g L s P news .next { s with heap := h', toks := tk } := ⟨rfl, ln, who, when, sec, kw, fl, r, z, tl, t1, t2, t3, tw, u, c0, h', tk, rfl, F, N⟩
@[elab_as_elim] theorem EntryPost.use {g : Heap} {L : Addr} {s : Shared} {P : List UInt8 → List UInt8 → Int → Int → Bool → Prop} {news : Led} {f : Flow} {s' : Shared} {MOT : Flow → Shared → Prop} (q : EntryPost g L s P news f s')
    (k : ∀ (ln who : List UInt8) (when sec kw : Int) (fl : Bool) (r z : Addr) (tl t1 t2 t3 tw : Tok) (u : Str → Option Value), P ln who when sec fl → ∀ (h' : Heap) (tk : Nat), Fr g L h' (ovr [(Str.ofString "when", .int kw tw), (Str.ofString "line", .bytes ln.toArray tl), (Str.ofString "record", .ref r)] u) → News g L h' ((r, tupO [.bytes who.toArray t1, .int when t2, .ref z]) :: (z, tupO [.int sec t3, .bool fl]) :: news) → MOT .next { s with heap := h', toks := tk }) : MOT f s' := by
  obtain ⟨rfl, ln, who, when, sec, kw, fl, r, z, tl, t1, t2, t3, tw, u, c0, h', tk, rfl, F, N⟩ := q
  exact k ln who when sec kw fl r z tl t1 t2 t3 tw u c0 h' tk F N
theorem entry_post {g h' : Heap} {L : Addr} {s : Shared} {tk : Nat} {P : List UInt8 → List UInt8 → Int → Int → Bool → Prop} {M : Str → Option Value} {ln who : List UInt8} {when sec kw : Int} {fl : Bool} {r z : Addr} {tl t1 t2 t3 tw : Tok} {news : Led}
    (hP : P ln who when sec fl) (F : Fr g L h' M) (N : News g L h' ((r, tupO [.bytes who.toArray t1, .int when t2, .ref z]) :: (z, tupO [.int sec t3, .bool fl]) :: news))
    (hk : ∀ p ∈ ([(Str.ofString "when", .int kw tw), (Str.ofString "line", .bytes ln.toArray tl), (Str.ofString "record", .ref r)] : List (Str × Value)), M p.1 = some p.2) : EntryPost g L s P news .next { s with heap := h', toks := tk } :=
  ⟨rfl, ln, who, when, sec, kw, fl, r, z, tl, t1, t2, t3, tw, M, hP, h', tk, rfl, fr_ovr _ F hk, N⟩
theorem entry_made {g h' : Heap} {L : Addr} {s : Shared} {tk : Nat} {P : List UInt8 → List UInt8 → Int → Int → Bool → Prop} {M : Str → Option Value} {ln who : List UInt8} {when sec kw : Int} {fl : Bool} {r z : Addr} {tl t1 t2 t3 tw : Tok} {news : Led} {o1 o2 o3 : Addr × Obj}
    (N : News g L h' (o1 :: (r, tupO [.bytes who.toArray t1, .int when t2, .ref z]) :: (z, tupO [.int sec t3, .bool fl]) :: o2 :: o3 :: news)) (hP : P ln who when sec fl) (F : Fr g L h' M)
    (hk : ∀ p ∈ ([(Str.ofString "when", .int kw tw), (Str.ofString "line", .bytes ln.toArray tl), (Str.ofString "record", .ref r)] : List (Str × Value)), M p.1 = some p.2) : EntryPost g L s P news .next { s with heap := h', toks := tk } :=
  entry_post hP F (news_sub N (fun p hp => by
    rcases List.mem_cons.1 hp with rfl | hp
    · exact .tail _ (.head _)
    rcases List.mem_cons.1 hp with rfl | hp
    · exact .tail _ (.tail _ (.head _))
    exact .tail _ (.tail _ (.tail _ (.tail _ (.tail _ hp)))))) hk
noncomputable def MoveP (ln who : List UInt8) (when sec : Int) (f : Bool) (w' : List UInt8) (k' s₁ : Int) (b' : Bool) (ln2 who2 : List UInt8) (when2 sec2 : Int) (f2 : Bool) : Prop :=
  (ln2 = ln ∧ who2 = who ∧ when2 = when ∧ sec2 = sec ∧ f2 = f) ∨
  (∃ y q, lzF s₁ b' = some y ∧ w' = q ++ [62] ∧ ln2 = w' ++ 32 :: (decI k' ++ 32 :: y) ∧ who2 = w' ∧ when2 = k' ∧ sec2 = s₁ ∧ f2 = (b' && decide (0 ≤ s₁)))
set_option maxHeartbeats 1000000 in
theorem law_moveEnd (w : World) (mean : ExcName → Option Value) (mg mb : Str → Option Value) (fa : Addr) (cd : Value) (h₀ : Heap) (L : Addr) (m' : Str → Option Value) (news : Led) (s : Shared) (ta tb tc td tl t1 t2 t3 : Tok) (r z : Addr) (ln w' who : List UInt8) (when sec k' s₁ : Int) (f b' : Bool)
    (hw : w'.length ≤ 600) (hmade : ∀ y, lzF s₁ b' = some y → (w' ++ 32 :: (decI k' ++ 32 :: y)).length ≤ 600 ∧ PQ.Hb (w' ++ 32 :: (decI k' ++ 32 :: y)) ∧ PI.Fair (w' ++ 32 :: (decI k' ++ 32 :: y))) :
    ∀ (st : Stmt) (hst : st = (thenOf ((turnAt w).getD 3 (.Pass default))).getD 6 (.Pass default)) (sc : Scope) (hsc : sc = scopeAt w 222)
    (B : Below callerA h₀ [] h₀) (X : (hd.heap_1 w.params).In h₀) (T : Top hd.view_1 (looseW hd.view_1 [Str.ofString "format_timezone"]) mean mg mb h₀)
    (F : Fr h₀ L s.heap (ovr (kvMove w' ln k' s₁ b' (madeV ((lzF s₁ b').map fun z => w' ++ 32 :: (decI k' ++ 32 :: z)) td) ta tb tc tl r) m'))
    (N : News h₀ L s.heap ((r, tupO [.bytes who.toArray t1, .int when t2, .ref z]) :: (z, tupO [.int sec t3, .bool f]) :: news)),
    wpK (model Challenge.rw_ai0005_01.row.prog w) (callerA.deeper (envOf (Str.ofString "law") sc L fa cd)) (exec st (envOf (Str.ofString "law") sc L fa cd))
      (EntryPost h₀ L s (MoveP ln who when sec f w' k' s₁ b') news) (fun _ _ => False) s := by
  k_fill
  intro st hst sc hsc B X T F N
  conv at hst => rhs; whnf
  conv at hsc => rhs; whnf
  subst hst hsc
  cases hz : lzF s₁ b' with
  | none =>
    rw [hz] at F
    dsimp only [kvMove, ovr, madeV, Option.map_none] at F
    clear hmade
    refine wpK_If (wpK_of ?_)
    k_steps
    refine wpK_of ?_
    k_steps
    exact entry_post (.inl ⟨rfl, rfl, rfl, rfl, rfl⟩) F N (by kst_all)
  | some y =>
    obtain ⟨hl6, hHb, hFair⟩ := hmade y hz
    rw [hz] at F
    dsimp only [kvMove, ovr, madeV, Option.map_some] at F
    refine wpK_If (wpK_of ?_)
    k_steps
    · rename_i hcut
      obtain ⟨q, hq⟩ := PQ.cut_last hcut
      refine wpK_of ?_
      k_steps
      · rename b' = _ => a
        subst a
        exact entry_made (by assumption) (.inr ⟨y, q, hz, hq, rfl, rfl, rfl, rfl, (Bool.true_and _).symm⟩) (by assumption) (by kst_all)
      · rename b' = _ => a
        subst a
        exact entry_made (by assumption) (.inr ⟨y, q, hz, hq, rfl, rfl, rfl, rfl, (Bool.false_and _).symm⟩) (by assumption) (by kst_all)
    · refine wpK_execs_cons (wpK_If (wpK_isTrue_and (wpK_of ?_)))
      k_steps
      refine wpK_isTrue_and ?_
      refine wpK_isTrue_Compare1 (wpK_Call ?_)
      k_steps
      refine wpK_callWith (K := hd.heap_1 w.params) ?_ ?_
      · k_is
      k_steps
      refine line_told w mean mg mb _ _ hl6 hHb _ _ _ _ _ _ _ _ _ _ _ (by k_asm) (by k_asm) (by k_asm) (by k_asm) (by k_asm) rfl ?_
      intro v new h' tk' hR F' N'
      refine wpK_of ?_
      k_steps
      unfold Hold
      refine con_use (lread_con w mean mg mb _ _ hl6) (by k_asm) (by k_asm) (by k_asm) (by k_asm) (by k_asm) (by first | exact rfl | assumption) (by ktr_room) (by ktr_units) ?_
      intro v2 new2 h' tk' hR2 F' N'
      rw [← PI.line_same hFair] at hR2
      k_steps
      refine EQ.ne_of (EQ.line_eq N' hR hR2 (fun p hp => List.mem_append_right _ (List.mem_append_left _ hp)) (fun p hp => List.mem_append_left _ hp) (by first | units_room | exact Nat.le_of_ble_eq_true rfl)).2 ?_
      k_steps
      refine wpK_of ?_
      show wpAny _ _ (execs [] _) _ _ _
      k_steps
      try dsimp only
      refine wpK_of ?_
      try (show wpAny _ _ (execs [] _) _ _ _)
      k_steps
      exact entry_post (.inl ⟨rfl, rfl, rfl, rfl, rfl⟩) (by assumption) (news_sub N' (fun p hp => List.mem_append_right _ (List.mem_append_right _ hp))) (by kst_all)
end
section
open _root_.PySem _root_.PySem.W _root_.PySem.Spec _root_.PySem.Calls _root_.PyProof.Rows
theorem told_LF : True := by
  k_with_none
  w_top off
  k_with "own omega" => (with_reducible first | exact om6 (by assumption) rfl | exact om0 (by assumption) | exact om2 (by assumption) rfl | exact om3 (by assumption) rfl | exact om4 (by assumption) rfl | exact Int.emod_nonneg _ (by decide) | exact Int.emod_lt_of_pos _ (by decide) | exact om8 (by assumption) rfl | exact om9 (by assumption) rfl)
  k_with "storeName" => ((k_here; k_dflt (first | ((with_reducible show wpAny _ _ (storeName _ _ (Value.int _ _)) _ _ _); refine storeG_int (by k_asm) (by k_asm) ?_ (by rfl) (by rfl); intro hq9 tq9 kq9 Fq9 Nq9) | ((with_reducible show wpAny _ _ (storeName _ _ (Value.bytes _ _)) _ _ _); refine storeG_bytes (by k_asm) (by k_asm) ?_ (by rfl) (by rfl); intro hq9 tq9 kq9 Fq9 Nq9) | (refine storeG_any (by k_asm) (by k_asm) ?_ (by rfl) (by rfl); intro hq9 kq9 Fq9 Nq9)); (try k_sweep)))
  k_with "Go" => (refine go_on (by assumption) ?_)
  k_with "own kby_size" => ((first | assumption | omega | (simp only [List.length_append, List.length_cons, List.length_nil] at *; omega)))
  k_with "subscriptTail" => ((k_here; (with_reducible show wpAny _ _ (subscriptTail _ (Expr.Slice _ _ none _) (Value.bytes (List.toArray _) _) (Value.ref _)) _ _ _); (with_reducible rename Fr _ _ _ _ => Fq9); (with_reducible rename News _ _ _ _ => Nq9); (refine BY.slice_L (s := ⟨_, _, _, _, _⟩) Fq9 Nq9 (by constructor) (by constructor) (by kby_size) ?_); intro _ _ _ Fq9 Nq9 hlenq9))
  k_with "binaryOp Add bytes bytes" => ((k_here; (with_reducible show wpAny _ _ (binaryOp Operator.Add (Value.bytes (List.toArray _) _) (Value.bytes (List.toArray _) _)) _ _ _); (refine BY.add_L (by kby_size) ?_); intro _ _))
  k_with "compareOp Eq bytes bytes" => ((k_here; (with_reducible show wpAny _ _ (compareOp CmpOp.Eq (Value.bytes (List.toArray _) _) (Value.bytes (List.toArray _) _)) _ _ _); (refine BY.eq_L ?_)))
  k_with "compareOp NotEq bytes bytes" => ((k_here; (with_reducible show wpAny _ _ (compareOp CmpOp.NotEq (Value.bytes (List.toArray _) _) (Value.bytes (List.toArray _) _)) _ _ _); (refine BY.ne_L ?_)))
  k_with "subscriptTail" => ((k_here; (with_reducible show wpAny _ _ (subscriptTail _ _ (Value.bytes (List.toArray _) _) (Value.int _ _)) _ _ _); (refine BY.item_L (by kby_size) (by first | decide | omega) (by first | omega | (simp only [List.length_append, List.length_cons, List.length_nil] at *; omega)) ?_); intro _ _))
  k_with "compareOp NotIn int bytes" => ((k_here; (with_reducible show wpAny _ _ (compareOp CmpOp.NotIn (Value.int _ _) (Value.bytes (List.toArray _) _)) _ _ _); (refine BY.notIn_B ?_)))
  k_with "call type:int" => ((k_here; (with_reducible show wpAny _ _ (call (Value.type "int") [Value.bytes (List.toArray _) _]) _ _ _); (refine IR.call_int_bytes (by assumption) (by assumption) ?_)))
  k_with "getMethod bytes" => ((k_here; first | (with_reducible refine BW.meth_rindex ?_) | (with_reducible refine BW.meth_rsplit ?_) | (with_reducible refine BW.meth_split ?_) | (with_reducible refine BW.meth_join ?_)))
  k_with "call builtin:bytes.rindex" => ((k_here; first
  | (refine BW.rindex_found (by with_reducible assumption) ?_; intro _ _)
  | (refine BW.rindex_not (by with_reducible assumption) (by first | exact rfl | assumption) ?_; intro _ _ _ _ hxq9)))
  k_with "call builtin:bytes.rsplit" => ((k_here; first
  | (refine BW.rsplit_two (by k_asm) (by k_asm) (by kby_size) (by with_reducible assumption) ?_; intro Dq9 t1q9 t2q9 hq9 kq9 Fq9 Nq9 l1q9; (try k_lt l1q9))
  | (refine BW.rsplit_one (by k_asm) (by k_asm) (by kby_size) (by with_reducible assumption) ?_; intro Dq9 t1q9 hq9 kq9 Fq9 Nq9 l1q9; (try k_lt l1q9))))
  k_with "call builtin:bytes.split" => ((k_here; (refine BW.split_L (by k_asm) (by k_asm) (by kby_size) ?_); intro Dq9 vsq9 hq9 kq9 hvsq9 Fq9 Nq9 l1q9; (try k_lt l1q9)))
  k_with "call builtin:bytes.join" => ((k_here; (refine BW.join_L (News.isList (by k_asm) (by k_mem)) (by with_reducible assumption) (by kby_size) ?_); intro _ _))
  k_with "assign Tuple" => ((k_here; (with_reducible show wpAny _ _ (assign (Expr.Tuple _ _ _) _ (Value.ref _)) _ _ _); (refine BW.unpack_one (News.isList (by k_asm) (by k_mem)) (by exact rfl) (by exact rfl) (by exact rfl) ?_); intro _ _ _ _ hxq9))
  k_with "subscriptTail" => ((k_here; (with_reducible show wpAny _ _ (subscriptTail _ _ (Value.ref _) (Value.int _ _)) _ _ _); (refine BW.item_BL (News.isList (by k_asm) (by k_mem)) (by with_reducible assumption) (by first | assumption | omega) (by first | assumption | omega) (by first | assumption | omega) ?_); intro _))
  k_with "noteFrame ref" => ((k_here; k_dflt ((with_reducible rename Heap.MadeExc _ _ _ _ _ => hxMq9); (refine look_made2 (Heap.MadeExc.of hxMq9) (by k_asm) (by k_asm) (by assumption) ?_); clear hxMq9; intro hq9 tq9 Gq9 Fq9 Rq9 alq9 Uq9; (try dsimp only at Rq9 Uq9 ⊢))))
  k_with "leaving ref" => ((k_here; k_dflt ((with_reducible rename KtsDicts _ _ => kdX); (with_reducible rename Heap.MadeExc _ _ _ _ _ => hxMq9); (refine leave_raise2 (by assumption) (Heap.MadeExc.of hxMq9) (by assumption) (by k_asm) ?_); intro hq9 tq9 Sq9 alq9 Uq9; (have Rq9 := RaisedS.toK Sq9); (try dsimp only at Sq9 Rq9 Uq9 ⊢))))
  k_with "noteFrame ref" => ((k_here; k_dflt ((rename RaisedS _ _ _ _ _ _ _ _ _ => rsX); (with_reducible rename Alone _ _ => alX); (with_reducible show wpAny _ _ (noteFrame _ _) (fun _ s₂ => wpAny _ _ (setFlight _ none) (fun _ s₃ => wpAny _ _ (handleBy _ _ [ExceptHandler.ExceptHandler _ (some _) [Stmt.Raise (some _) (some _) _] _]) _ _ s₃) _ s₂) _ _); (refine look_on2 rsX alX (by assumption) (by assumption) ?_); intro hq9 Rq9 alq9 Uq9; (try dsimp only at Rq9 Uq9 ⊢))))
  k_with "handleBy ref" => ((k_here; k_dflt ((with_reducible rename Alone _ _ => alX); (refine hit2 (by assumption) alX (by assumption) (by assumption) (by assumption) (by assumption) (by assumption) (by assumption) (by kts_test) PySem.F.excBase_Exception PySem.F.excRaise_ValueError (by k_is) (by k_exc) ?_ (fun _ _ hh => hh)); intro hq9 tkq9 e2q9 t2q9 Rq9 RKq9 Uq9; (try dsimp only at Rq9 RKq9 Uq9 ⊢))))
  k_with "getMethod str" => ((k_here; (with_reducible refine BE.meth_encode ?_)))
  k_with "binaryOp Mod str ref" => ((k_here; (with_reducible show wpAny _ _ (binaryOp Operator.Mod (Value.str _ _) (Value.ref _)) _ _ _); k_dflt ((refine BF.fmt_rule (by k_asm) (by k_mem) (by decide +kernel) (by first | exact PG.fd1 (by omega) | exact PG.fd2 (by omega)) PG.fd3 ?_); intro _ _)))
  k_with "call builtin:str.encode" => ((k_here; k_dflt ((refine BE.encode (BF.ascii_fmt _ _ (by decide +kernel)) (BF.size_fmt (by decide +kernel) (by first | exact PG.fd1 (by omega) | exact PG.fd2 (by omega)) PG.fd3) ?_); intro _ _)))
  k_with "call type:str" => ((k_here; k_dflt (refine P.str_of_int (BF.log_lt (by omega)) ?_)))
  k_with "call builtin:str.encode" => ((k_here; k_dflt ((refine BE.encode (BF.ascii_int _) (PH.size_int (by omega)) ?_); intro _ _)))
  k_with "call builtin:bytes.join" => ((k_here; k_dflt ((refine BW.join_L (News.isList (by k_asm) (by k_mem)) (bytesAre_cons (bytesAre_cons (bytesAre_cons bytesAre_nil))) (PH.join3 (by assumption) (Nat.le_trans (PH.octs_int_len (by omega)) (by decide)) (Nat.le_trans (PH.octs_fmt_len (by decide +kernel) (by first | exact PG.fd1 (by omega) | exact PG.fd2 (by omega)) PG.fd3) (by decide))) ?_); intro _ _)))
  k_with "subscriptTail" => ((k_here; (with_reducible show wpAny _ _ (subscriptTail _ (PySem.Expr.Slice _ _ none _) (Value.ref _) (Value.ref _)) _ _ _); k_dflt (first
  | (refine BS.slice_from (by k_asm) (by k_asm) (News.isList (by k_asm) (by k_mem)) (by with_reducible assumption) (by constructor) (by constructor) (by omega) (by (try simp only [List.length_drop, List.length_take]); omega) ?_)
  | (refine BS.slice_upto (by k_asm) (by k_asm) (News.isList (by k_asm) (by k_mem)) (by with_reducible assumption) (by constructor) (by constructor) (by omega) (by (try simp only [List.length_drop, List.length_take]); omega) ?_)
  | (refine BS.slice_less (by k_asm) (by k_asm) (News.isList (by k_asm) (by k_mem)) (by with_reducible assumption) (by constructor) (by constructor) (by (try simp only [List.length_drop, List.length_take]); omega) ?_)); intro Dq9 wsq9 hq9 hvsq9 Fq9 Nq9 l1q9; (try k_lt l1q9)))
  k_with "subscriptTail" => ((k_here; (with_reducible show wpAny _ _ (subscriptTail _ _ (Value.ref _) (Value.int (-1) _)) _ _ _); (refine BS.item_last (News.isList (by k_asm) (by k_mem)) (by with_reducible assumption) (by first | assumption | omega) (by first | assumption | omega) ?_); intro _))
  k_with "call builtin:len" => ((k_here; (with_reducible show wpAny _ _ (call (Value.builtin "len") [Value.ref _]) _ _ _); (refine BS.len_B (News.isList (by k_asm) (by k_mem)) (by with_reducible assumption) (by (try simp only [List.length_drop, List.length_take]); omega) ?_); intro _ _))
  k_with "call builtin:divmod" => ((k_here; (with_reducible show wpAny _ _ (call (Value.builtin _) [Value.int _ _, Value.int _ _]) _ _ _); (refine divmod_K (by k_asm) (by k_asm) (by first | assumption | omega) (by assumption) ?_); intro Dq9 hq9 _ _ _ Fq9 Nq9 l1q9; (try k_lt l1q9)))
  trivial
theorem told_LF_31 : True := by
  k_with "eval Call" => ((k_here; (with_reducible show wpAny _ _ (eval (PySem.Expr.Call (PySem.Expr.Name _ _) _ _ _) _) _ _ _); refine Call_ ?_))
  k_with "call ref" => ((k_here; (with_reducible show wpAny _ _ (call (Value.ref 159) _) _ _ _); refine hold ?_))
  k_with "call ref" => ((k_here; (with_reducible show wpAny _ _ (call (Value.ref 215) _) _ _ _); refine hold ?_))
  k_with "call ref" => ((k_here; (with_reducible show wpAny _ _ (call (Value.ref 145) _) _ _ _); refine hold ?_))
  trivial
noncomputable abbrev kvEntry (ln : List UInt8) (when : Int) (tl tw : Tok) (r : Addr) : List (Str × Value) := [(Str.ofString "line", .bytes ln.toArray tl), (Str.ofString "record", .ref r), (Str.ofString "when", .int when tw)]
noncomputable abbrev kvLaid (v : Value) (V Y ln : List UInt8) (when : Int) (tl tw ta tb : Tok) (r : Addr) : List (Str × Value) := (Str.ofString "due", v) :: (Str.ofString "value", .bytes V.toArray ta) :: (Str.ofString "text", .bytes Y.toArray tb) :: kvEntry ln when tl tw r
noncomputable def LaidPost (g : Heap) (L : Addr) (s : Shared) (kd : Int) (ln who : List UInt8) (when sec : Int) (b : Bool) (tl tw : Tok) (r : Addr) (news : Led) (f : Flow) (s' : Shared) : Prop := f = .next ∧
  ∃ (V X : List UInt8) (ta tb : Tok) (u : Str → Option Value), LaidOk kd who when sec b V X ∧ Leaves g L s s' (ovr ((Str.ofString "value", .bytes V.toArray ta) :: (Str.ofString "text", .bytes X.toArray tb) :: kvEntry ln when tl tw r) u) news
theorem LaidPost.mk {g : Heap} {L : Addr} {s : Shared} {kd : Int} {ln who : List UInt8} {when sec : Int} {b : Bool} {tl tw : Tok} {r : Addr} {news : Led} {V X : List UInt8} {ta tb : Tok} {u : Str → Option Value} {h' : Heap} {tk : Nat} (c0 : LaidOk kd who when sec b V X) (F : Fr g L h' (ovr ((Str.ofString "value", .bytes V.toArray ta) :: (Str.ofString "text", .bytes X.toArray tb) :: kvEntry ln when tl tw r) u)) (N : News g L h' news) : LaidPost g L s kd ln who when sec b tl tw r news .next { s with heap := h', toks := tk } := ⟨rfl, V, X, ta, tb, u, c0, h', tk, rfl, F, N⟩
@[elab_as_elim] theorem LaidPost.use {g : Heap} {L : Addr} {s : Shared} {kd : Int} {ln who : List UInt8} {when sec : Int} {b : Bool} {tl tw : Tok} {r : Addr} {news : Led} {f : Flow} {s' : Shared} {MOT : Flow → Shared → Prop} (q : LaidPost g L s kd ln who when sec b tl tw r news f s')
    (k : ∀ (V X : List UInt8) (ta tb : Tok) (u : Str → Option Value), LaidOk kd who when sec b V X → ∀ (h' : Heap) (tk : Nat), Fr g L h' (ovr ((Str.ofString "value", .bytes V.toArray ta) :: (Str.ofString "text", .bytes X.toArray tb) :: kvEntry ln when tl tw r) u) → News g L h' news → MOT .next { s with heap := h', toks := tk }) : MOT f s' := by
  obtain ⟨rfl, V, X, ta, tb, u, c0, h', tk, rfl, F, N⟩ := q
  exact k V X ta tb u c0 h' tk F N
noncomputable def AllAt (M : Str → Option Value) : List (Str × Value) → Prop
  | [] => True
  | (x, v) :: l => M x = some v ∧ AllAt M l
theorem AllAt.all {M : Str → Option Value} : ∀ {l : List (Str × Value)}, AllAt M l → ∀ p ∈ l, M p.1 = some p.2
  | [], _, _, h => nomatch h
  | (_, _) :: _, h, _, hp => (List.mem_cons.mp hp).elim (fun e => by rw [e]; exact h.1) fun q => AllAt.all h.2 _ q
set_option maxHeartbeats 1000000 in
theorem law_laid (w : World) (mean : ExcName → Option Value) (mg mb : Str → Option Value) (fa : Addr) (cd : Value) (h₀ : Heap) (L : Addr) (m' : Str → Option Value) (news : Led) (s : Shared) (tl t1 t2 t3 t4 t5 t6 t7 : Tok) (r z : Addr) (ln who : List UInt8) (when sec kd rs : Int) (f : Bool)
    (hwho : who.length ≤ 600) (hwhen : when.natAbs < 10 ^ 60) (hsec : sec.natAbs < 10 ^ 60) (h60 : sec % 60 = 0) (hk : kd = 4 ∨ kd = 5 ∨ kd = 6 ∨ kd = 7) :
    ∀ (st : Stmt) (hst : st = (elseOf ((turnAt w).getD 3 (.Pass default))).getD 0 (.Pass default)) (sc : Scope) (hsc : sc = scopeAt w 222)
    (B : Below callerA h₀ [] h₀) (X : (hd.heap_1 w.params).In h₀) (T : Top hd.view_1 (looseW hd.view_1 [Str.ofString "format_timezone"]) mean mg mb h₀)
    (F : Fr h₀ L s.heap (fun y => if y = Str.ofString "line" then some (.bytes ln.toArray tl) else if y = Str.ofString "record" then some (.ref r) else if y = Str.ofString "kind" then some (.int kd t4) else if y = Str.ofString "rest" then some (.int rs t5) else if y = Str.ofString "who" then some (.bytes who.toArray t6) else if y = Str.ofString "when" then some (.int when t7) else if y = Str.ofString "zone" then some (.ref z) else m' y))
    (N : News h₀ L s.heap ((r, tupO [.bytes who.toArray t1, .int when t2, .ref z]) :: (z, tupO [.int sec t3, .bool f]) :: news)),
    wpK (model Challenge.rw_ai0005_01.row.prog w) (callerA.deeper (envOf (Str.ofString "law") sc L fa cd)) (exec st (envOf (Str.ofString "law") sc L fa cd))
      (LaidPost h₀ L s kd ln who when sec f tl t7 r ((r, tupO [.bytes who.toArray t1, .int when t2, .ref z]) :: (z, tupO [.int sec t3, .bool f]) :: news)) (fun _ _ => False) s := by
  k_fill
  intro st hst sc hsc B X T F N
  conv at hst => rhs; whnf
  conv at hsc => rhs; whnf
  subst hst hsc
  have hC : ConN w mean mg mb 4 (z, { cls := .type "tuple", data := .seq #[.int sec t3, .bool f] }) 215 [.int kd t4, .int rs t5, .bytes who.toArray t6, .int when t7, .ref z] (RetLaid kd who when sec f) := by
    rcases hk with rfl | rfl | rfl | rfl
    · exact laid_con4 w mean mg mb _ _ _ _ _ _ _ _ _ _ _ hwho hwhen hsec h60
    · exact laid_con5 w mean mg mb _ _ _ _ _ _ _ _ _ _ _ hwho hwhen hsec h60
    · exact laid_con6 w mean mg mb _ _ _ _ _ _ _ _ _ _ _ hwho hwhen hsec h60
    · exact laid_con7 w mean mg mb _ _ _ _ _ _ _ _ _ _ _ hwho hwhen hsec h60
  have N1 : News h₀ L s.heap ((z, tupO [.int sec t3, .bool f]) :: (r, tupO [.bytes who.toArray t1, .int when t2, .ref z]) :: (z, tupO [.int sec t3, .bool f]) :: news) := news_sub N (fun p hp => by
    rcases List.mem_cons.1 hp with rfl | hp
    · exact .tail _ (.head _)
    · exact hp)
  refine wpK_of ?_
  k_steps
  unfold Hold
  refine hC _ _ _ _ _ _ _ _ _ _ _ _ _ _ _ _ _ _ (by k_asm) (by k_asm) (by k_asm) N1 (by k_asm) (by first | exact rfl | assumption) (by ktr_room) (by ktr_units) ?_
  clear N1 N
  rintro v new h' tk' ⟨V, Y, hv, hok⟩ F' N'
  obtain ⟨a, ta, tb, rfl, rfl⟩ := hv
  k_steps
  rename News _ _ _ _ => N2
  exact LaidPost.mk hok (fr_ovr ((Str.ofString "value", .bytes V.toArray _) :: (Str.ofString "text", .bytes Y.toArray _) :: kvEntry ln when tl t7 r) (by assumption) (AllAt.all (by repeat (first | exact True.intro | refine And.intro (by with_unfolding_all rfl) ?_)))) (news_sub N2 (fun p hp => .tail _ (.tail _ hp)))

noncomputable def DuePost (g : Heap) (L : Addr) (s : Shared) (V : List UInt8) (kv : List (Str × Value)) (news : Led) (f : Flow) (s' : Shared) : Prop := f = .next ∧
  ∃ (v : Value) (new : Led) (u : Str → Option Value), RetLine (lrF V) v new ∧ Leaves g L s s' (ovr ((Str.ofString "due", v) :: kv) u) (new ++ news)
theorem DuePost.mk {g : Heap} {L : Addr} {s : Shared} {V : List UInt8} {kv : List (Str × Value)} {news : Led} {v : Value} {new : Led} {u : Str → Option Value} {h' : Heap} {tk : Nat} (c0 : RetLine (lrF V) v new) (F : Fr g L h' (ovr ((Str.ofString "due", v) :: kv) u)) (N : News g L h' (new ++ news)) : DuePost g L s V kv news .next { s with heap := h', toks := tk } := ⟨rfl, v, new, u, c0, h', tk, rfl, F, N⟩
@[elab_as_elim] theorem DuePost.use {g : Heap} {L : Addr} {s : Shared} {V : List UInt8} {kv : List (Str × Value)} {news : Led} {f : Flow} {s' : Shared} {MOT : Flow → Shared → Prop} (q : DuePost g L s V kv news f s')
    (k : ∀ (v : Value) (new : Led) (u : Str → Option Value), RetLine (lrF V) v new → ∀ (h' : Heap) (tk : Nat), Fr g L h' (ovr ((Str.ofString "due", v) :: kv) u) → News g L h' (new ++ news) → MOT .next { s with heap := h', toks := tk }) : MOT f s' := by
  obtain ⟨rfl, v, new, u, c0, h', tk, rfl, F, N⟩ := q
  exact k v new u c0 h' tk F N
set_option maxHeartbeats 1000000 in
theorem law_due (w : World) (mean : ExcName → Option Value) (mg mb : Str → Option Value) (fa : Addr) (cd : Value) (h₀ : Heap) (L : Addr) (m' : Str → Option Value) (news : Led) (s : Shared) (tl tw ta tb : Tok) (r : Addr) (ln V Y : List UInt8) (when : Int)
    (hlen : V.length ≤ 600) (hHb : PQ.Hb V) (hFair : PI.Fair V) :
    ∀ (st : List Stmt) (hst : st = ((elseOf ((turnAt w).getD 3 (.Pass default))).drop 1).take 2) (sc : Scope) (hsc : sc = scopeAt w 222)
    (B : Below callerA h₀ [] h₀) (X : (hd.heap_1 w.params).In h₀) (T : Top hd.view_1 (looseW hd.view_1 [Str.ofString "format_timezone"]) mean mg mb h₀)
    (F : Fr h₀ L s.heap (ovr ((Str.ofString "value", .bytes V.toArray ta) :: (Str.ofString "text", .bytes Y.toArray tb) :: kvEntry ln when tl tw r) m'))
    (N : News h₀ L s.heap news),
    wpK (model Challenge.rw_ai0005_01.row.prog w) (callerA.deeper (envOf (Str.ofString "law") sc L fa cd)) (execs st (envOf (Str.ofString "law") sc L fa cd))
      (DuePost h₀ L s V ((Str.ofString "value", .bytes V.toArray ta) :: (Str.ofString "text", .bytes Y.toArray tb) :: kvEntry ln when tl tw r) news) (fun _ _ => False) s := by
  k_fill
  intro st hst sc hsc B X T F N
  conv at hst => rhs; dsimp only [turnAt, thenOf, elseOf, stAt, subS]
  conv at hst => rhs; whnf
  conv at hsc => rhs; whnf
  subst hst hsc
  dsimp only [ovr] at F
  refine wpK_execs_cons (wpK_of ?_)
  k_steps
  unfold Hold
  refine con_use (lread_con w mean mg mb _ _ hlen) (by k_asm) (by k_asm) (by k_asm) (by k_asm) (by k_asm) (by first | exact rfl | assumption) (by ktr_room) (by ktr_units) ?_
  intro v new h' tk' hR F' N'
  k_steps
  dsimp only
  refine wpK_execs_cons (wpK_If (wpK_isTrue_Compare1 (wpK_Call ?_)))
  k_steps
  refine wpK_callWith (K := hd.heap_1 w.params) ?_ ?_
  · k_is
  k_steps
  refine line_told w mean mg mb V _ hlen hHb _ _ _ _ _ _ _ _ _ _ _ (by k_asm) (by k_asm) (by k_asm) (by k_asm) (by k_asm) rfl ?_
  intro v2 new2 h' tk' hR2 F' N'
  rw [PI.line_same hFair] at hR2
  refine wpK_of ?_
  k_steps
  refine EQ.ne_of (EQ.line_eq N' hR2 hR (fun p hp => List.mem_append_left _ hp) (fun p hp => List.mem_append_right _ (List.mem_append_left _ hp)) (by first | units_room | exact Nat.le_of_ble_eq_true rfl)).2 ?_
  k_steps
  refine wpK_of ?_
  show wpAny _ _ (execs [] _) _ _ _
  k_steps
  try dsimp only
  refine wpK_of ?_
  try (show wpAny _ _ (execs [] _) _ _ _)
  k_steps
  exact DuePost.mk hR (fr_ovr ((Str.ofString "due", v) :: (Str.ofString "value", .bytes V.toArray ta) :: (Str.ofString "text", .bytes Y.toArray tb) :: kvEntry ln when tl tw r) (by assumption) (by kst_all)) (news_sub N' (fun p hp => List.mem_append_right _ hp))
end
section
open _root_.PySem _root_.PySem.W _root_.PySem.Spec _root_.PySem.Calls _root_.PyProof.Rows
theorem told_LG : True := by
  k_with_none
  w_top off
  k_with "own omega" => (with_reducible first | exact om6 (by assumption) rfl | exact om0 (by assumption) | exact om2 (by assumption) rfl | exact om3 (by assumption) rfl | exact om4 (by assumption) rfl | exact Int.emod_nonneg _ (by decide) | exact Int.emod_lt_of_pos _ (by decide) | exact om8 (by assumption) rfl | exact om9 (by assumption) rfl)
  k_with "storeName" => ((k_here; k_dflt (first | ((with_reducible show wpAny _ _ (storeName _ _ (Value.int _ _)) _ _ _); refine storeG_int (by k_asm) (by k_asm) ?_ (by rfl) (by rfl); intro hq9 tq9 kq9 Fq9 Nq9) | ((with_reducible show wpAny _ _ (storeName _ _ (Value.bytes _ _)) _ _ _); refine storeG_bytes (by k_asm) (by k_asm) ?_ (by rfl) (by rfl); intro hq9 tq9 kq9 Fq9 Nq9) | (refine storeG_any (by k_asm) (by k_asm) ?_ (by rfl) (by rfl); intro hq9 kq9 Fq9 Nq9)); (try k_sweep)))
  k_with "Go" => (refine go_on (by assumption) ?_)
  k_with "own kby_size" => ((first | assumption | omega | (simp only [List.length_append, List.length_cons, List.length_nil] at *; omega)))
  k_with "subscriptTail" => ((k_here; (with_reducible show wpAny _ _ (subscriptTail _ (Expr.Slice _ _ none _) (Value.bytes (List.toArray _) _) (Value.ref _)) _ _ _); (with_reducible rename Fr _ _ _ _ => Fq9); (with_reducible rename News _ _ _ _ => Nq9); (refine BY.slice_L (s := ⟨_, _, _, _, _⟩) Fq9 Nq9 (by constructor) (by constructor) (by kby_size) ?_); intro _ _ _ Fq9 Nq9 hlenq9))
  k_with "binaryOp Add bytes bytes" => ((k_here; (with_reducible show wpAny _ _ (binaryOp Operator.Add (Value.bytes (List.toArray _) _) (Value.bytes (List.toArray _) _)) _ _ _); (refine BY.add_L (by kby_size) ?_); intro _ _))
  k_with "compareOp Eq bytes bytes" => ((k_here; (with_reducible show wpAny _ _ (compareOp CmpOp.Eq (Value.bytes (List.toArray _) _) (Value.bytes (List.toArray _) _)) _ _ _); (refine BY.eq_L ?_)))
  k_with "compareOp NotEq bytes bytes" => ((k_here; (with_reducible show wpAny _ _ (compareOp CmpOp.NotEq (Value.bytes (List.toArray _) _) (Value.bytes (List.toArray _) _)) _ _ _); (refine BY.ne_L ?_)))
  k_with "subscriptTail" => ((k_here; (with_reducible show wpAny _ _ (subscriptTail _ _ (Value.bytes (List.toArray _) _) (Value.int _ _)) _ _ _); (refine BY.item_L (by kby_size) (by first | decide | omega) (by first | omega | (simp only [List.length_append, List.length_cons, List.length_nil] at *; omega)) ?_); intro _ _))
  k_with "compareOp NotIn int bytes" => ((k_here; (with_reducible show wpAny _ _ (compareOp CmpOp.NotIn (Value.int _ _) (Value.bytes (List.toArray _) _)) _ _ _); (refine BY.notIn_B ?_)))
  k_with "call type:int" => ((k_here; (with_reducible show wpAny _ _ (call (Value.type "int") [Value.bytes (List.toArray _) _]) _ _ _); (refine IR.call_int_bytes (by assumption) (by assumption) ?_)))
  k_with "getMethod bytes" => ((k_here; first | (with_reducible refine BW.meth_rindex ?_) | (with_reducible refine BW.meth_rsplit ?_) | (with_reducible refine BW.meth_split ?_) | (with_reducible refine BW.meth_join ?_)))
  k_with "call builtin:bytes.rindex" => ((k_here; first
  | (refine BW.rindex_found (by with_reducible assumption) ?_; intro _ _)
  | (refine BW.rindex_not (by with_reducible assumption) (by first | exact rfl | assumption) ?_; intro _ _ _ _ hxq9)))
  k_with "call builtin:bytes.rsplit" => ((k_here; first
  | (refine BW.rsplit_two (by k_asm) (by k_asm) (by kby_size) (by with_reducible assumption) ?_; intro Dq9 t1q9 t2q9 hq9 kq9 Fq9 Nq9 l1q9; (try k_lt l1q9))
  | (refine BW.rsplit_one (by k_asm) (by k_asm) (by kby_size) (by with_reducible assumption) ?_; intro Dq9 t1q9 hq9 kq9 Fq9 Nq9 l1q9; (try k_lt l1q9))))
  k_with "call builtin:bytes.split" => ((k_here; (refine BW.split_L (by k_asm) (by k_asm) (by kby_size) ?_); intro Dq9 vsq9 hq9 kq9 hvsq9 Fq9 Nq9 l1q9; (try k_lt l1q9)))
  k_with "call builtin:bytes.join" => ((k_here; (refine BW.join_L (News.isList (by k_asm) (by k_mem)) (by with_reducible assumption) (by kby_size) ?_); intro _ _))
  k_with "assign Tuple" => ((k_here; (with_reducible show wpAny _ _ (assign (Expr.Tuple _ _ _) _ (Value.ref _)) _ _ _); (refine BW.unpack_one (News.isList (by k_asm) (by k_mem)) (by exact rfl) (by exact rfl) (by exact rfl) ?_); intro _ _ _ _ hxq9))
  k_with "subscriptTail" => ((k_here; (with_reducible show wpAny _ _ (subscriptTail _ _ (Value.ref _) (Value.int _ _)) _ _ _); (refine BW.item_BL (News.isList (by k_asm) (by k_mem)) (by with_reducible assumption) (by first | assumption | omega) (by first | assumption | omega) (by first | assumption | omega) ?_); intro _))
  k_with "noteFrame ref" => ((k_here; k_dflt ((with_reducible rename Heap.MadeExc _ _ _ _ _ => hxMq9); (refine look_made2 (Heap.MadeExc.of hxMq9) (by k_asm) (by k_asm) (by assumption) ?_); clear hxMq9; intro hq9 tq9 Gq9 Fq9 Rq9 alq9 Uq9; (try dsimp only at Rq9 Uq9 ⊢))))
  k_with "leaving ref" => ((k_here; k_dflt ((with_reducible rename KtsDicts _ _ => kdX); (with_reducible rename Heap.MadeExc _ _ _ _ _ => hxMq9); (refine leave_raise2 (by assumption) (Heap.MadeExc.of hxMq9) (by assumption) (by k_asm) ?_); intro hq9 tq9 Sq9 alq9 Uq9; (have Rq9 := RaisedS.toK Sq9); (try dsimp only at Sq9 Rq9 Uq9 ⊢))))
  k_with "noteFrame ref" => ((k_here; k_dflt ((rename RaisedS _ _ _ _ _ _ _ _ _ => rsX); (with_reducible rename Alone _ _ => alX); (with_reducible show wpAny _ _ (noteFrame _ _) (fun _ s₂ => wpAny _ _ (setFlight _ none) (fun _ s₃ => wpAny _ _ (handleBy _ _ [ExceptHandler.ExceptHandler _ (some _) [Stmt.Raise (some _) (some _) _] _]) _ _ s₃) _ s₂) _ _); (refine look_on2 rsX alX (by assumption) (by assumption) ?_); intro hq9 Rq9 alq9 Uq9; (try dsimp only at Rq9 Uq9 ⊢))))
  k_with "handleBy ref" => ((k_here; k_dflt ((with_reducible rename Alone _ _ => alX); (refine hit2 (by assumption) alX (by assumption) (by assumption) (by assumption) (by assumption) (by assumption) (by assumption) (by kts_test) PySem.F.excBase_Exception PySem.F.excRaise_ValueError (by k_is) (by k_exc) ?_ (fun _ _ hh => hh)); intro hq9 tkq9 e2q9 t2q9 Rq9 RKq9 Uq9; (try dsimp only at Rq9 RKq9 Uq9 ⊢))))
  k_with "getMethod str" => ((k_here; (with_reducible refine BE.meth_encode ?_)))
  k_with "binaryOp Mod str ref" => ((k_here; (with_reducible show wpAny _ _ (binaryOp Operator.Mod (Value.str _ _) (Value.ref _)) _ _ _); k_dflt ((refine BF.fmt_rule (by k_asm) (by k_mem) (by decide +kernel) (by first | exact PG.fd1 (by omega) | exact PG.fd2 (by omega)) PG.fd3 ?_); intro _ _)))
  k_with "call builtin:str.encode" => ((k_here; k_dflt ((refine BE.encode (BF.ascii_fmt _ _ (by decide +kernel)) (BF.size_fmt (by decide +kernel) (by first | exact PG.fd1 (by omega) | exact PG.fd2 (by omega)) PG.fd3) ?_); intro _ _)))
  k_with "call type:str" => ((k_here; k_dflt (refine P.str_of_int (BF.log_lt (by omega)) ?_)))
  k_with "call builtin:str.encode" => ((k_here; k_dflt ((refine BE.encode (BF.ascii_int _) (PH.size_int (by omega)) ?_); intro _ _)))
  k_with "call builtin:bytes.join" => ((k_here; k_dflt ((refine BW.join_L (News.isList (by k_asm) (by k_mem)) (bytesAre_cons (bytesAre_cons (bytesAre_cons bytesAre_nil))) (PH.join3 (by assumption) (Nat.le_trans (PH.octs_int_len (by omega)) (by decide)) (Nat.le_trans (PH.octs_fmt_len (by decide +kernel) (by first | exact PG.fd1 (by omega) | exact PG.fd2 (by omega)) PG.fd3) (by decide))) ?_); intro _ _)))
  k_with "subscriptTail" => ((k_here; (with_reducible show wpAny _ _ (subscriptTail _ (PySem.Expr.Slice _ _ none _) (Value.ref _) (Value.ref _)) _ _ _); k_dflt (first
  | (refine BS.slice_from (by k_asm) (by k_asm) (News.isList (by k_asm) (by k_mem)) (by with_reducible assumption) (by constructor) (by constructor) (by omega) (by (try simp only [List.length_drop, List.length_take]); omega) ?_)
  | (refine BS.slice_upto (by k_asm) (by k_asm) (News.isList (by k_asm) (by k_mem)) (by with_reducible assumption) (by constructor) (by constructor) (by omega) (by (try simp only [List.length_drop, List.length_take]); omega) ?_)
  | (refine BS.slice_less (by k_asm) (by k_asm) (News.isList (by k_asm) (by k_mem)) (by with_reducible assumption) (by constructor) (by constructor) (by (try simp only [List.length_drop, List.length_take]); omega) ?_)); intro Dq9 wsq9 hq9 hvsq9 Fq9 Nq9 l1q9; (try k_lt l1q9)))
  k_with "subscriptTail" => ((k_here; (with_reducible show wpAny _ _ (subscriptTail _ _ (Value.ref _) (Value.int (-1) _)) _ _ _); (refine BS.item_last (News.isList (by k_asm) (by k_mem)) (by with_reducible assumption) (by first | assumption | omega) (by first | assumption | omega) ?_); intro _))
  k_with "call builtin:len" => ((k_here; (with_reducible show wpAny _ _ (call (Value.builtin "len") [Value.ref _]) _ _ _); (refine BS.len_B (News.isList (by k_asm) (by k_mem)) (by with_reducible assumption) (by (try simp only [List.length_drop, List.length_take]); omega) ?_); intro _ _))
  k_with "call builtin:divmod" => ((k_here; (with_reducible show wpAny _ _ (call (Value.builtin _) [Value.int _ _, Value.int _ _]) _ _ _); (refine divmod_K (by k_asm) (by k_asm) (by first | assumption | omega) (by assumption) ?_); intro Dq9 hq9 _ _ _ Fq9 Nq9 l1q9; (try k_lt l1q9)))
  trivial
theorem told_LG_32 : True := by
  k_with "eval Call" => ((k_here; (with_reducible show wpAny _ _ (eval (PySem.Expr.Call (PySem.Expr.Name _ _) _ _ _) _) _ _ _); refine Call_ ?_))
  k_with "call ref" => ((k_here; (with_reducible show wpAny _ _ (call (Value.ref 145) _) _ _ _); refine hold ?_))
  trivial
noncomputable def SensePost (g : Heap) (L : Addr) (s : Shared) (Y : List UInt8) (kv : List (Str × Value)) (news : Led) (f : Flow) (s' : Shared) : Prop := f = .next ∧
  ∃ (v : Value) (new : Led) (u : Str → Option Value), RetIB (zrF Y) v new ∧ Leaves g L s s' (ovr ((Str.ofString "sense", v) :: kv) u) (new ++ news)
theorem SensePost.mk {g : Heap} {L : Addr} {s : Shared} {Y : List UInt8} {kv : List (Str × Value)} {news : Led} {v : Value} {new : Led} {u : Str → Option Value} {h' : Heap} {tk : Nat} (c0 : RetIB (zrF Y) v new) (F : Fr g L h' (ovr ((Str.ofString "sense", v) :: kv) u)) (N : News g L h' (new ++ news)) : SensePost g L s Y kv news .next { s with heap := h', toks := tk } := ⟨rfl, v, new, u, c0, h', tk, rfl, F, N⟩
@[elab_as_elim] theorem SensePost.use {g : Heap} {L : Addr} {s : Shared} {Y : List UInt8} {kv : List (Str × Value)} {news : Led} {f : Flow} {s' : Shared} {MOT : Flow → Shared → Prop} (q : SensePost g L s Y kv news f s')
    (k : ∀ (v : Value) (new : Led) (u : Str → Option Value), RetIB (zrF Y) v new → ∀ (h' : Heap) (tk : Nat), Fr g L h' (ovr ((Str.ofString "sense", v) :: kv) u) → News g L h' (new ++ news) → MOT .next { s with heap := h', toks := tk }) : MOT f s' := by
  obtain ⟨rfl, v, new, u, c0, h', tk, rfl, F, N⟩ := q
  exact k v new u c0 h' tk F N

set_option maxHeartbeats 1000000 in
theorem law_zones (w : World) (mean : ExcName → Option Value) (mg mb : Str → Option Value) (fa : Addr) (cd : Value) (h₀ : Heap) (L : Addr) (m' : Str → Option Value) (news : Led) (s : Shared) (tl tw ta tb : Tok) (r : Addr) (ln V Y : List UInt8) (when : Int) (v : Value)
    (h1 : PQ.One Y) (h0 : Y ≠ []) (hlen : Y.length ≤ 49) :
    ∀ (st : List Stmt) (hst : st = ((elseOf ((turnAt w).getD 3 (.Pass default))).drop 3).take 2) (sc : Scope) (hsc : sc = scopeAt w 222)
    (B : Below callerA h₀ [] h₀) (X : (hd.heap_1 w.params).In h₀) (T : Top hd.view_1 (looseW hd.view_1 [Str.ofString "format_timezone"]) mean mg mb h₀)
    (F : Fr h₀ L s.heap (ovr (kvLaid v V Y ln when tl tw ta tb r) m'))
    (N : News h₀ L s.heap news),
    wpK (model Challenge.rw_ai0005_01.row.prog w) (callerA.deeper (envOf (Str.ofString "law") sc L fa cd)) (execs st (envOf (Str.ofString "law") sc L fa cd))
      (SensePost h₀ L s Y (kvLaid v V Y ln when tl tw ta tb r) news) (fun _ _ => False) s := by
  k_fill
  intro st hst sc hsc B X T F N
  conv at hst => rhs; dsimp only [turnAt, thenOf, elseOf, stAt, subS]
  conv at hst => rhs; whnf
  conv at hsc => rhs; whnf
  subst hst hsc
  dsimp only [ovr] at F
  have l1 : 1 ≤ Y.length := List.length_pos_iff.mpr h0
  have l6 : Y.length ≤ 600 := Nat.le_trans (by assumption) (show 49 ≤ 600 by decide)
  have c6 : (45 :: Y).length ≤ 600 := Nat.le_trans (Nat.succ_le_succ (by assumption)) (show 49 + 1 ≤ 600 by decide)
  have c1 : 1 ≤ (45 :: Y).length := Nat.succ_pos _
  have e1 := PQ.text_same h1
  have e2 := PQ.text_same2 h1
  clear h1 h0
  refine wpK_execs_cons (wpK_of ?_)
  k_steps
  unfold Hold
  refine con_use (zread_con w mean mg mb _ _ l6) (by k_asm) (by k_asm) (by k_asm) (by k_asm) (by k_asm) (by first | exact rfl | assumption) (by ktr_room) (by ktr_units) ?_
  intro y new h' tk' hR F' N'
  k_steps
  dsimp only
  refine wpK_execs_cons (wpK_If ?_)
  refine wpK_isTrue_or ?_
  refine wpK_isTrue_Compare1 (wpK_Call ?_)
  k_steps
  refine wpK_callWith (K := hd.heap_1 w.params) ?_ ?_
  · k_is
  k_steps
  refine zone_told w mean mg mb Y _ l6 l1 _ _ _ _ _ _ _ _ _ _ _ (by k_asm) (by k_asm) (by k_asm) (by k_asm) (by k_asm) rfl ?_
  intro v2 new2 h' tk' hR2 F' N'
  rw [e1] at hR2
  refine wpK_of ?_
  k_steps
  refine EQ.ne_of (EQ.zone_eq N' hR2 hR (fun p hp => List.mem_append_left _ hp) (fun p hp => List.mem_append_right _ (List.mem_append_left _ hp)) (by first | units_room | exact Nat.le_of_ble_eq_true rfl)) ?_
  k_steps
  refine wpK_isTrue_or ?_
  refine wpK_isTrue_Compare1 (wpK_Call ?_)
  k_steps
  refine wpK_callWith (K := hd.heap_1 w.params) ?_ ?_
  · k_is
  k_steps
  refine zone_told w mean mg mb (45 :: Y) _ c6 c1 _ _ _ _ _ _ _ _ _ _ _ (by k_asm) (by k_asm) (by k_asm) (by k_asm) (by k_asm) rfl ?_
  intro v3 new3 h' tk' hR3 F' N'
  rw [e2] at hR3
  refine wpK_of ?_
  k_steps
  unfold Hold
  refine con_use (zread_con w mean mg mb _ _ c6) (by k_asm) (by k_asm) (by k_asm) (by k_asm) (by k_asm) (by first | exact rfl | assumption) (by ktr_room) (by ktr_units) ?_
  intro v4 new4 h' tk' hR4 F' N'
  k_steps
  refine EQ.ne_of (EQ.zone_eq N' hR3 hR4 (fun p hp => List.mem_append_right _ (List.mem_append_left _ hp)) (fun p hp => List.mem_append_left _ hp) (by first | units_room | exact Nat.le_of_ble_eq_true rfl)) ?_
  k_steps
  refine wpK_isTrue_or_nil ?_
  simp only [if_false]
  refine wpK_of ?_
  show wpAny _ _ (execs [] _) _ _ _
  k_steps
  try dsimp only
  refine wpK_of ?_
  try (show wpAny _ _ (execs [] _) _ _ _)
  k_steps
  exact SensePost.mk hR (fr_ovr ((Str.ofString "sense", y) :: kvLaid v V Y ln when tl tw ta tb r) (by assumption) (by kst_all)) (news_sub N' (fun p hp => List.mem_append_right _ (List.mem_append_right _ (List.mem_append_right _ hp))))
end
section
open _root_.PySem _root_.PySem.W _root_.PySem.Spec _root_.PySem.Calls _root_.PyProof.Rows
theorem told_LH : True := by
  k_with_none
  w_top off
  k_with "own omega" => (with_reducible first | exact om6 (by assumption) rfl | exact om0 (by assumption) | exact om2 (by assumption) rfl | exact om3 (by assumption) rfl | exact om4 (by assumption) rfl | exact Int.emod_nonneg _ (by decide) | exact Int.emod_lt_of_pos _ (by decide) | exact om8 (by assumption) rfl | exact om9 (by assumption) rfl)
  k_with "storeName" => ((k_here; k_dflt (first | ((with_reducible show wpAny _ _ (storeName _ _ (Value.int _ _)) _ _ _); refine storeG_int (by k_asm) (by k_asm) ?_ (by rfl) (by rfl); intro hq9 tq9 kq9 Fq9 Nq9) | ((with_reducible show wpAny _ _ (storeName _ _ (Value.bytes _ _)) _ _ _); refine storeG_bytes (by k_asm) (by k_asm) ?_ (by rfl) (by rfl); intro hq9 tq9 kq9 Fq9 Nq9) | (refine storeG_any (by k_asm) (by k_asm) ?_ (by rfl) (by rfl); intro hq9 kq9 Fq9 Nq9)); (try k_sweep)))
  k_with "Go" => (refine go_on (by assumption) ?_)
  k_with "own kby_size" => ((first | assumption | omega | (simp only [List.length_append, List.length_cons, List.length_nil] at *; omega)))
  k_with "subscriptTail" => ((k_here; (with_reducible show wpAny _ _ (subscriptTail _ (Expr.Slice _ _ none _) (Value.bytes (List.toArray _) _) (Value.ref _)) _ _ _); (with_reducible rename Fr _ _ _ _ => Fq9); (with_reducible rename News _ _ _ _ => Nq9); (refine BY.slice_L (s := ⟨_, _, _, _, _⟩) Fq9 Nq9 (by constructor) (by constructor) (by kby_size) ?_); intro _ _ _ Fq9 Nq9 hlenq9))
  k_with "binaryOp Add bytes bytes" => ((k_here; (with_reducible show wpAny _ _ (binaryOp Operator.Add (Value.bytes (List.toArray _) _) (Value.bytes (List.toArray _) _)) _ _ _); (refine BY.add_L (by kby_size) ?_); intro _ _))
  k_with "compareOp Eq bytes bytes" => ((k_here; (with_reducible show wpAny _ _ (compareOp CmpOp.Eq (Value.bytes (List.toArray _) _) (Value.bytes (List.toArray _) _)) _ _ _); (refine BY.eq_L ?_)))
  k_with "compareOp NotEq bytes bytes" => ((k_here; (with_reducible show wpAny _ _ (compareOp CmpOp.NotEq (Value.bytes (List.toArray _) _) (Value.bytes (List.toArray _) _)) _ _ _); (refine BY.ne_L ?_)))
  k_with "subscriptTail" => ((k_here; (with_reducible show wpAny _ _ (subscriptTail _ _ (Value.bytes (List.toArray _) _) (Value.int _ _)) _ _ _); (refine BY.item_L (by kby_size) (by first | decide | omega) (by first | omega | (simp only [List.length_append, List.length_cons, List.length_nil] at *; omega)) ?_); intro _ _))
  k_with "compareOp NotIn int bytes" => ((k_here; (with_reducible show wpAny _ _ (compareOp CmpOp.NotIn (Value.int _ _) (Value.bytes (List.toArray _) _)) _ _ _); (refine BY.notIn_B ?_)))
  k_with "call type:int" => ((k_here; (with_reducible show wpAny _ _ (call (Value.type "int") [Value.bytes (List.toArray _) _]) _ _ _); (refine IR.call_int_bytes (by assumption) (by assumption) ?_)))
  k_with "getMethod bytes" => ((k_here; first | (with_reducible refine BW.meth_rindex ?_) | (with_reducible refine BW.meth_rsplit ?_) | (with_reducible refine BW.meth_split ?_) | (with_reducible refine BW.meth_join ?_)))
  k_with "call builtin:bytes.rindex" => ((k_here; first
  | (refine BW.rindex_found (by with_reducible assumption) ?_; intro _ _)
  | (refine BW.rindex_not (by with_reducible assumption) (by first | exact rfl | assumption) ?_; intro _ _ _ _ hxq9)))
  k_with "call builtin:bytes.rsplit" => ((k_here; first
  | (refine BW.rsplit_two (by k_asm) (by k_asm) (by kby_size) (by with_reducible assumption) ?_; intro Dq9 t1q9 t2q9 hq9 kq9 Fq9 Nq9 l1q9; (try k_lt l1q9))
  | (refine BW.rsplit_one (by k_asm) (by k_asm) (by kby_size) (by with_reducible assumption) ?_; intro Dq9 t1q9 hq9 kq9 Fq9 Nq9 l1q9; (try k_lt l1q9))))
  k_with "call builtin:bytes.split" => ((k_here; (refine BW.split_L (by k_asm) (by k_asm) (by kby_size) ?_); intro Dq9 vsq9 hq9 kq9 hvsq9 Fq9 Nq9 l1q9; (try k_lt l1q9)))
  k_with "call builtin:bytes.join" => ((k_here; (refine BW.join_L (News.isList (by k_asm) (by k_mem)) (by with_reducible assumption) (by kby_size) ?_); intro _ _))
  k_with "assign Tuple" => ((k_here; (with_reducible show wpAny _ _ (assign (Expr.Tuple _ _ _) _ (Value.ref _)) _ _ _); (refine BW.unpack_one (News.isList (by k_asm) (by k_mem)) (by exact rfl) (by exact rfl) (by exact rfl) ?_); intro _ _ _ _ hxq9))
  k_with "subscriptTail" => ((k_here; (with_reducible show wpAny _ _ (subscriptTail _ _ (Value.ref _) (Value.int _ _)) _ _ _); (refine BW.item_BL (News.isList (by k_asm) (by k_mem)) (by with_reducible assumption) (by first | assumption | omega) (by first | assumption | omega) (by first | assumption | omega) ?_); intro _))
  k_with "noteFrame ref" => ((k_here; k_dflt ((with_reducible rename Heap.MadeExc _ _ _ _ _ => hxMq9); (refine look_made2 (Heap.MadeExc.of hxMq9) (by k_asm) (by k_asm) (by assumption) ?_); clear hxMq9; intro hq9 tq9 Gq9 Fq9 Rq9 alq9 Uq9; (try dsimp only at Rq9 Uq9 ⊢))))
  k_with "leaving ref" => ((k_here; k_dflt ((with_reducible rename KtsDicts _ _ => kdX); (with_reducible rename Heap.MadeExc _ _ _ _ _ => hxMq9); (refine leave_raise2 (by assumption) (Heap.MadeExc.of hxMq9) (by assumption) (by k_asm) ?_); intro hq9 tq9 Sq9 alq9 Uq9; (have Rq9 := RaisedS.toK Sq9); (try dsimp only at Sq9 Rq9 Uq9 ⊢))))
  k_with "noteFrame ref" => ((k_here; k_dflt ((rename RaisedS _ _ _ _ _ _ _ _ _ => rsX); (with_reducible rename Alone _ _ => alX); (with_reducible show wpAny _ _ (noteFrame _ _) (fun _ s₂ => wpAny _ _ (setFlight _ none) (fun _ s₃ => wpAny _ _ (handleBy _ _ [ExceptHandler.ExceptHandler _ (some _) [Stmt.Raise (some _) (some _) _] _]) _ _ s₃) _ s₂) _ _); (refine look_on2 rsX alX (by assumption) (by assumption) ?_); intro hq9 Rq9 alq9 Uq9; (try dsimp only at Rq9 Uq9 ⊢))))
  k_with "handleBy ref" => ((k_here; k_dflt ((with_reducible rename Alone _ _ => alX); (refine hit2 (by assumption) alX (by assumption) (by assumption) (by assumption) (by assumption) (by assumption) (by assumption) (by kts_test) PySem.F.excBase_Exception PySem.F.excRaise_ValueError (by k_is) (by k_exc) ?_ (fun _ _ hh => hh)); intro hq9 tkq9 e2q9 t2q9 Rq9 RKq9 Uq9; (try dsimp only at Rq9 RKq9 Uq9 ⊢))))
  k_with "getMethod str" => ((k_here; (with_reducible refine BE.meth_encode ?_)))
  k_with "binaryOp Mod str ref" => ((k_here; (with_reducible show wpAny _ _ (binaryOp Operator.Mod (Value.str _ _) (Value.ref _)) _ _ _); k_dflt ((refine BF.fmt_rule (by k_asm) (by k_mem) (by decide +kernel) (by first | exact PG.fd1 (by omega) | exact PG.fd2 (by omega)) PG.fd3 ?_); intro _ _)))
  k_with "call builtin:str.encode" => ((k_here; k_dflt ((refine BE.encode (BF.ascii_fmt _ _ (by decide +kernel)) (BF.size_fmt (by decide +kernel) (by first | exact PG.fd1 (by omega) | exact PG.fd2 (by omega)) PG.fd3) ?_); intro _ _)))
  k_with "call type:str" => ((k_here; k_dflt (refine P.str_of_int (BF.log_lt (by omega)) ?_)))
  k_with "call builtin:str.encode" => ((k_here; k_dflt ((refine BE.encode (BF.ascii_int _) (PH.size_int (by omega)) ?_); intro _ _)))
  k_with "call builtin:bytes.join" => ((k_here; k_dflt ((refine BW.join_L (News.isList (by k_asm) (by k_mem)) (bytesAre_cons (bytesAre_cons (bytesAre_cons bytesAre_nil))) (PH.join3 (by assumption) (Nat.le_trans (PH.octs_int_len (by omega)) (by decide)) (Nat.le_trans (PH.octs_fmt_len (by decide +kernel) (by first | exact PG.fd1 (by omega) | exact PG.fd2 (by omega)) PG.fd3) (by decide))) ?_); intro _ _)))
  k_with "subscriptTail" => ((k_here; (with_reducible show wpAny _ _ (subscriptTail _ (PySem.Expr.Slice _ _ none _) (Value.ref _) (Value.ref _)) _ _ _); k_dflt (first
  | (refine BS.slice_from (by k_asm) (by k_asm) (News.isList (by k_asm) (by k_mem)) (by with_reducible assumption) (by constructor) (by constructor) (by omega) (by (try simp only [List.length_drop, List.length_take]); omega) ?_)
  | (refine BS.slice_upto (by k_asm) (by k_asm) (News.isList (by k_asm) (by k_mem)) (by with_reducible assumption) (by constructor) (by constructor) (by omega) (by (try simp only [List.length_drop, List.length_take]); omega) ?_)
  | (refine BS.slice_less (by k_asm) (by k_asm) (News.isList (by k_asm) (by k_mem)) (by with_reducible assumption) (by constructor) (by constructor) (by (try simp only [List.length_drop, List.length_take]); omega) ?_)); intro Dq9 wsq9 hq9 hvsq9 Fq9 Nq9 l1q9; (try k_lt l1q9)))
  k_with "subscriptTail" => ((k_here; (with_reducible show wpAny _ _ (subscriptTail _ _ (Value.ref _) (Value.int (-1) _)) _ _ _); (refine BS.item_last (News.isList (by k_asm) (by k_mem)) (by with_reducible assumption) (by first | assumption | omega) (by first | assumption | omega) ?_); intro _))
  k_with "call builtin:len" => ((k_here; (with_reducible show wpAny _ _ (call (Value.builtin "len") [Value.ref _]) _ _ _); (refine BS.len_B (News.isList (by k_asm) (by k_mem)) (by with_reducible assumption) (by (try simp only [List.length_drop, List.length_take]); omega) ?_); intro _ _))
  k_with "call builtin:divmod" => ((k_here; (with_reducible show wpAny _ _ (call (Value.builtin _) [Value.int _ _, Value.int _ _]) _ _ _); (refine divmod_K (by k_asm) (by k_asm) (by first | assumption | omega) (by assumption) ?_); intro Dq9 hq9 _ _ _ Fq9 Nq9 l1q9; (try k_lt l1q9)))
  trivial
theorem told_LH_33 : True := by
  k_with "eval Call" => ((k_here; (with_reducible show wpAny _ _ (eval (PySem.Expr.Call (PySem.Expr.Name _ _) _ _ _) _) _ _ _); refine Call_ ?_))
  trivial
noncomputable def KeepPost (g : Heap) (L : Addr) (s : Shared) (kv : List (Str × Value)) (news : Led) (f : Flow) (s' : Shared) : Prop := f = .next ∧ ∃ u, Leaves g L s s' (ovr kv u) news
theorem KeepPost.mk {g : Heap} {L : Addr} {s : Shared} {kv : List (Str × Value)} {news : Led} {u : Str → Option Value} {h' : Heap} {tk : Nat} (F : Fr g L h' (ovr kv u)) (N : News g L h' news) : KeepPost g L s kv news .next { s with heap := h', toks := tk } := ⟨rfl, u, h', tk, rfl, F, N⟩
@[elab_as_elim] theorem KeepPost.use {g : Heap} {L : Addr} {s : Shared} {kv : List (Str × Value)} {news : Led} {f : Flow} {s' : Shared} {MOT : Flow → Shared → Prop} (q : KeepPost g L s kv news f s')
    (k : ∀ u, ∀ (h' : Heap) (tk : Nat), Fr g L h' (ovr kv u) → News g L h' news → MOT .next { s with heap := h', toks := tk }) : MOT f s' := by
  obtain ⟨rfl, u, h', tk, rfl, F, N⟩ := q
  exact k u h' tk F N
set_option maxHeartbeats 1000000 in
theorem law_sense (w : World) (mean : ExcName → Option Value) (mg mb : Str → Option Value) (fa : Addr) (cd : Value) (h₀ : Heap) (L : Addr) (m' : Str → Option Value) (news : Led) (s : Shared) (tl tw ta tb : Tok) (r : Addr) (ln V Y : List UInt8) (when : Int) (v y : Value) (new : Led)
    (hlen : Y.length ≤ 49) (hR : RetIB (zrF Y) y new) :
    ∀ (st : Stmt) (hst : st = (elseOf ((turnAt w).getD 3 (.Pass default))).getD 5 (.Pass default)) (sc : Scope) (hsc : sc = scopeAt w 222)
    (B : Below callerA h₀ [] h₀) (X : (hd.heap_1 w.params).In h₀) (T : Top hd.view_1 (looseW hd.view_1 [Str.ofString "format_timezone"]) mean mg mb h₀)
    (F : Fr h₀ L s.heap (ovr ((Str.ofString "sense", y) :: kvLaid v V Y ln when tl tw ta tb r) m'))
    (N : News h₀ L s.heap (new ++ news)),
    wpK (model Challenge.rw_ai0005_01.row.prog w) (callerA.deeper (envOf (Str.ofString "law") sc L fa cd)) (exec st (envOf (Str.ofString "law") sc L fa cd))
      (KeepPost h₀ L s (kvLaid v V Y ln when tl tw ta tb r) news) (fun _ _ => False) s := by
  k_fill
  intro st hst sc hsc B X T F N
  conv at hst => rhs; whnf
  conv at hsc => rhs; whnf
  subst hst hsc
  cases hz : zrF Y with
  | none =>
    rw [hz] at hR
    obtain ⟨rfl, rfl⟩ := hR
    dsimp only [List.nil_append] at N
    dsimp only [ovr] at F
    refine wpK_If (wpK_isTrue_and (wpK_of ?_))
    k_steps
    refine wpK_of ?_
    show wpAny _ _ (execs [] _) _ _ _
    k_steps
    exact ⟨rfl, _, _, _, rfl, fr_ovr (kvLaid v V Y ln when tl tw ta tb r) F (by kst_all), N⟩
  | some x =>
    have hb : x.1.natAbs < 10 ^ 60 := Nat.lt_trans (PQ.zone_lt hz (PQ.DR.len hlen)).1 (by decide)
    rw [hz] at hR
    obtain ⟨a, ti, rfl, rfl⟩ := hR
    dsimp only [List.singleton_append] at N
    dsimp only [ovr] at F
    refine wpK_If (wpK_isTrue_and (wpK_of ?_))
    k_steps
    refine wpK_isTrue_and ?_
    refine wpK_isTrue_not ?_
    refine wpK_isTrue_plain ?_
    refine wpK_Call ?_
    k_steps
    refine wpK_callWith (K := hd.heap_1 w.params) ?_ ?_
    · k_is
    k_steps
    refine there_con w mean mg mb _ _ _ hb _ _ _ _ _ _ _ _ _ _ _ (by k_asm) (by k_asm) (by k_asm) (by k_asm) (by k_asm) rfl ?_
    intro v1 new h' tk' hR F' N'
    obtain ⟨rfl, rfl⟩ := hR
    dsimp only [List.nil_append] at N'
    k_steps
    refine wpK_of ?_
    show wpAny _ _ (execs [] _) _ _ _
    k_steps
    exact ⟨rfl, _, _, _, rfl, fr_ovr (kvLaid v V Y ln when tl tw ta tb r) (by assumption) (by kst_all), news_sub N' (fun p hp => .tail _ hp)⟩
set_option maxHeartbeats 1000000 in
theorem law_takes (w : World) (mean : ExcName → Option Value) (mg mb : Str → Option Value) (fa : Addr) (cd : Value) (h₀ : Heap) (L : Addr) (m' : Str → Option Value) (news : Led) (s : Shared) (tl tw ta tb t1 t2 t3 : Tok) (r z : Addr) (ln who V Y : List UInt8) (when wh sec : Int) (f : Bool) (v : Value) (new : Led)
    (hR : RetLine (lrF V) v new) :
    ∀ (st : Stmt) (hst : st = (elseOf ((turnAt w).getD 3 (.Pass default))).getD 6 (.Pass default)) (sc : Scope) (hsc : sc = scopeAt w 222)
    (B : Below callerA h₀ [] h₀) (X : (hd.heap_1 w.params).In h₀) (T : Top hd.view_1 (looseW hd.view_1 [Str.ofString "format_timezone"]) mean mg mb h₀)
    (F : Fr h₀ L s.heap (ovr (kvLaid v V Y ln when tl tw ta tb r) m'))
    (N : News h₀ L s.heap (new ++ (r, tupO [.bytes who.toArray t1, .int wh t2, .ref z]) :: (z, tupO [.int sec t3, .bool f]) :: news)),
    wpK (model Challenge.rw_ai0005_01.row.prog w) (callerA.deeper (envOf (Str.ofString "law") sc L fa cd)) (exec st (envOf (Str.ofString "law") sc L fa cd))
      (EntryPost h₀ L s (fun ln2 who2 when2 sec2 f2 => (ln2 = ln ∧ who2 = who ∧ when2 = wh ∧ sec2 = sec ∧ f2 = f) ∨ (ln2 = V ∧ lrF V = some (who2, some (when2, (sec2, f2))))) news) (fun _ _ => False) s := by
  k_fill
  intro st hst sc hsc B X T F N
  conv at hst => rhs; whnf
  conv at hsc => rhs; whnf
  subst hst hsc
  cases hz : lrF V with
  | none =>
    rw [hz] at hR
    obtain ⟨rfl, rfl⟩ := hR
    dsimp only [List.nil_append] at N
    dsimp only [ovr] at F
    refine wpK_of ?_
    k_steps
    exact entry_post (.inl ⟨rfl, rfl, rfl, rfl, rfl⟩) F N (by kst_all)
  | some o =>
    obtain ⟨p, k⟩ := o
    cases k with
    | none =>
      rw [hz] at hR
      obtain ⟨a, b, t, rfl, rfl⟩ := hR
      simp only [List.cons_append, List.nil_append] at N
      dsimp only [ovr] at F
      refine wpK_of ?_
      k_steps
      exact entry_post (.inl ⟨rfl, rfl, rfl, rfl, rfl⟩) F (news_sub N (fun p hp => .tail _ (.tail _ hp))) (by kst_all)
    | some o =>
      obtain ⟨k, x⟩ := o
      rw [hz] at hR
      obtain ⟨a, b, t, u, tx, rfl, rfl⟩ := hR
      simp only [List.cons_append, List.nil_append] at N
      dsimp only [ovr] at F
      refine wpK_of ?_
      k_steps
      exact entry_made (by assumption) (.inr ⟨rfl, rfl⟩) (by assumption) (by kst_all)
end
section
open _root_.PySem _root_.PySem.W _root_.PySem.Spec _root_.PySem.Calls _root_.PyProof.Rows
theorem wpK_execs_append {M : Model} {A : Around} {E : Value → Shared → Prop} {env : Env} {Q : Flow → Shared → Prop} {l r : List Stmt} {s : Shared}
    (h : wpK M A (execs l env) (fun f s' => match f with | .next => wpK M A (execs r env) Q E s' | f => Q f s') E s) : wpK M A (execs (l ++ r) env) Q E s := fun Γ p hΓ hC => by
  have key : ∀ (l : List Stmt) (p) (s : Shared), Sem.wp M Γ (execs l env) (fun f p' s' => match f with | .next => Sem.wp M Γ (execs r env) (fun a _ s' => Q a s') (fun e _ s' => E e s') p' s' | f => Q f s') (fun e _ s' => E e s') p s →
      Sem.wp M Γ (execs (l ++ r) env) (fun a _ s' => Q a s') (fun e _ s' => E e s') p s := by
    intro l
    induction l with
    | nil => exact fun p s h => h
    | cons x l ih =>
      intro p s h
      rw [List.cons_append, execs_cons]
      rw [execs_cons] at h
      rw [Sem.wp_bind'] at h ⊢
      refine Sem.wp_mono M Γ _ (fun f p' s' h' => ?_) (fun _ _ _ h' => h') p s h
      cases f with
      | next => exact ih p' s' h'
      | _ => exact h'
  refine key l p s (Sem.wp_mono M Γ _ (fun f p' s' h' => ?_) (fun _ _ _ h' => h') p s (h Γ p hΓ hC))
  cases f with
  | next => exact h' Γ p' hΓ hC
  | _ => exact h'
theorem inv_more {n : Nat} {ln who : List UInt8} {when sec : Int} {f : Bool} (h : PQ.Inv n ln who when sec f) : PQ.Inv (n + 1) ln who when sec f := by
  have hw := h.wlen
  have h4 : 24 + 4 * n ≤ 24 + 4 * (n + 1) := Nat.add_le_add_left (Nat.mul_le_mul_left 4 (Nat.le_succ n)) 24
  refine ⟨h.told, h.hb, h.len, h.good, h.ends, Nat.le_trans hw (Nat.add_le_add_left (Nat.mul_le_mul_left 80 (Nat.le_succ n)) 90), h.dr.mono h4, Nat.lt_of_lt_of_le h.when_ (PQ.pow_le h4), Nat.lt_of_lt_of_le h.zone ?_, h.min60⟩
  exact Nat.mul_le_mul_left _ (PQ.pow_le (Nat.succ_le_succ h4))
set_option maxHeartbeats 1000000 in
theorem law_moves (w : World) (mean : ExcName → Option Value) (mg mb : Str → Option Value) (fa : Addr) (cd : Value) (h₀ : Heap) (L : Addr) (m' : Str → Option Value) (news : Led) (s : Shared) (n : Nat) (tl t1 t2 t3 t4 t5 t6 t7 : Tok) (r z : Addr) (ln who : List UInt8) (when sec kd rs : Int) (f : Bool)
    (hI : PQ.Inv n ln who when sec f) (hn : n ≤ 5) (hk : kd < 4) :
    ∀ (st : List Stmt) (hst : st = thenOf ((turnAt w).getD 3 (.Pass default))) (sc : Scope) (hsc : sc = scopeAt w 222)
    (B : Below callerA h₀ [] h₀) (X : (hd.heap_1 w.params).In h₀) (T : Top hd.view_1 (looseW hd.view_1 [Str.ofString "format_timezone"]) mean mg mb h₀)
    (F : Fr h₀ L s.heap (ovr [(Str.ofString "line", .bytes ln.toArray tl), (Str.ofString "record", .ref r), (Str.ofString "kind", .int kd t4), (Str.ofString "rest", .int rs t5), (Str.ofString "who", .bytes who.toArray t6), (Str.ofString "when", .int when t7), (Str.ofString "zone", .ref z)] m'))
    (N : News h₀ L s.heap ((r, tupO [.bytes who.toArray t1, .int when t2, .ref z]) :: (z, tupO [.int sec t3, .bool f]) :: news)),
    wpK (model Challenge.rw_ai0005_01.row.prog w) (callerA.deeper (envOf (Str.ofString "law") sc L fa cd)) (execs st (envOf (Str.ofString "law") sc L fa cd))
      (EntryPost h₀ L s (fun ln who when sec f => PQ.Inv (n + 1) ln who when sec f) news) (fun _ _ => False) s := by
  intro st hst sc hsc B X T F N
  have hwl := hI.wlen
  have hwho : who.length ≤ 490 := Nat.le_trans hwl (Nat.add_le_add_left (Nat.mul_le_mul_left 80 hn) 90)
  have e : st = (thenOf ((turnAt w).getD 3 (.Pass default))).take 5 ++ [(thenOf ((turnAt w).getD 3 (.Pass default))).getD 5 (.Pass default), (thenOf ((turnAt w).getD 3 (.Pass default))).getD 6 (.Pass default)] := hst.trans rfl
  rw [e]
  clear e hst st
  refine wpK_execs_append (wpK_mono (law_move w mean mg mb fa cd h₀ L m' news s tl t1 t2 t3 t4 t5 t6 t7 r z ln who when sec kd rs f hwho (hI.when60 (Nat.le_succ_of_le hn)) (hI.zone60 (Nat.le_succ_of_le hn)) hk _ rfl sc hsc B X T F N) (fun _ _ q => MovePost.use q ?_) fun _ _ h => h)
  intro w' k' s₁ b' ta tb tc td u hw' hk' hs' hb' h1 tk1 F1 N1
  dsimp only
  refine wpK_execs_cons (wpK_mono (law_three w mean mg mb fa cd h₀ L u news _ ta tb tc tl t1 t2 t3 r z ln w' who when sec k' s₁ f b' (madeV ((lzF s₁ b').map fun z => w' ++ 32 :: (decI k' ++ 32 :: z)) td) ?_ _ rfl sc hsc B X T F1 N1) (fun _ _ q => KvPost.use q ?_) fun _ _ h => h)
  · exact omt hs' (hI.zone60 (Nat.le_succ_of_le hn)) rfl
  intro u2 h2 tk2 F2 N2
  dsimp only
  have hwl2 : w'.length ≤ 600 := by
    rcases hw' with rfl | h
    · omega
    · exact Nat.le_trans (PQ.people_short w' h) (by decide)
  refine wpK_execs_cons (wpK_mono (law_moveEnd w mean mg mb fa cd h₀ L u2 news _ ta tb tc td tl t1 t2 t3 r z ln w' who when sec k' s₁ f b' hwl2 ?_ _ rfl sc hsc B X T F2 N2) (fun _ _ q => EntryPost.use q ?_) fun _ _ h => h)
  · intro y hy
    have g := PQ.made_good (k := k') (PQ.moved_person hI hn hw').1 hy
    exact ⟨PQ.moved_len hI hn hw' hk' hs' hy, PQ.good_hb g.1, g.2⟩
  intro ln2 who2 when2 sec2 kw fl2 r2 z2 tl' t1' t2' t3' tw' u3 hP h3 tk3 F3 N3
  dsimp only
  refine wpK_of ?_
  refine wpAny_execs_nil ?_
  refine EntryPost.mk ?_ F3 N3
  rcases hP with ⟨rfl, rfl, rfl, rfl, rfl⟩ | ⟨y, q, hz, rfl, rfl, rfl, rfl, rfl, rfl⟩
  · exact inv_more hI
  · exact PQ.inv_moved hI hn hw' hk' hs' hz

set_option maxHeartbeats 1000000 in
theorem law_lays (w : World) (mean : ExcName → Option Value) (mg mb : Str → Option Value) (fa : Addr) (cd : Value) (h₀ : Heap) (L : Addr) (m' : Str → Option Value) (news : Led) (s : Shared) (n : Nat) (tl t1 t2 t3 t4 t5 t6 t7 : Tok) (r z : Addr) (ln who : List UInt8) (when sec kd rs : Int) (f : Bool)
    (hI : PQ.Inv n ln who when sec f) (hn : n ≤ 5) (hk : kd = 4 ∨ kd = 5 ∨ kd = 6 ∨ kd = 7) :
    ∀ (st : List Stmt) (hst : st = elseOf ((turnAt w).getD 3 (.Pass default))) (sc : Scope) (hsc : sc = scopeAt w 222)
    (B : Below callerA h₀ [] h₀) (X : (hd.heap_1 w.params).In h₀) (T : Top hd.view_1 (looseW hd.view_1 [Str.ofString "format_timezone"]) mean mg mb h₀)
    (F : Fr h₀ L s.heap (ovr [(Str.ofString "line", .bytes ln.toArray tl), (Str.ofString "record", .ref r), (Str.ofString "kind", .int kd t4), (Str.ofString "rest", .int rs t5), (Str.ofString "who", .bytes who.toArray t6), (Str.ofString "when", .int when t7), (Str.ofString "zone", .ref z)] m'))
    (N : News h₀ L s.heap ((r, tupO [.bytes who.toArray t1, .int when t2, .ref z]) :: (z, tupO [.int sec t3, .bool f]) :: news)),
    wpK (model Challenge.rw_ai0005_01.row.prog w) (callerA.deeper (envOf (Str.ofString "law") sc L fa cd)) (execs st (envOf (Str.ofString "law") sc L fa cd))
      (EntryPost h₀ L s (fun ln who when sec f => PQ.Inv (n + 1) ln who when sec f) news) (fun _ _ => False) s := by
  intro st hst sc hsc B X T F N
  have hwl := hI.wlen
  have b1 := hI.when60 (Nat.le_succ_of_le hn)
  have b2 := hI.zone60 (Nat.le_succ_of_le hn)
  have e : st = (elseOf ((turnAt w).getD 3 (.Pass default))).getD 0 (.Pass default) :: (((elseOf ((turnAt w).getD 3 (.Pass default))).drop 1).take 2 ++ (((elseOf ((turnAt w).getD 3 (.Pass default))).drop 3).take 2 ++ [(elseOf ((turnAt w).getD 3 (.Pass default))).getD 5 (.Pass default), (elseOf ((turnAt w).getD 3 (.Pass default))).getD 6 (.Pass default)])) := hst.trans rfl
  rw [e]
  clear e hst st
  refine wpK_execs_cons (wpK_mono (law_laid w mean mg mb fa cd h₀ L m' news s tl t1 t2 t3 t4 t5 t6 t7 r z ln who when sec kd rs f (by omega) (by omega) (by omega) hI.min60 hk _ rfl sc hsc B X T F N) (fun _ _ q => LaidPost.use q ?_) fun _ _ h => h)
  intro V Y ta tb u hok h1 tk1 F1 N1
  dsimp only
  obtain ⟨hFair, hHb, hOne, hne, hV, hY⟩ := PQ.laid_all hI hn hok
  refine wpK_execs_append (wpK_mono (law_due w mean mg mb fa cd h₀ L u _ _ tl t7 ta tb r ln V Y when hV hHb hFair _ rfl sc hsc B X T F1 N1) (fun _ _ q => DuePost.use q ?_) fun _ _ h => h)
  intro v new u2 hR h2 tk2 F2 N2
  dsimp only
  refine wpK_execs_append (wpK_mono (law_zones w mean mg mb fa cd h₀ L u2 _ _ tl t7 ta tb r ln V Y when v hOne hne hY _ rfl sc hsc B X T F2 N2) (fun _ _ q => SensePost.use q ?_) fun _ _ h => h)
  intro y new2 u3 hR2 h3 tk3 F3 N3
  dsimp only
  refine wpK_execs_cons (wpK_mono (law_sense w mean mg mb fa cd h₀ L u3 _ _ tl t7 ta tb r ln V Y when v y new2 hY hR2 _ rfl sc hsc B X T F3 N3) (fun _ _ q => KeepPost.use q ?_) fun _ _ h => h)
  intro u4 h4 tk4 F4 N4
  dsimp only
  refine wpK_execs_cons (wpK_mono (law_takes w mean mg mb fa cd h₀ L u4 news _ tl t7 ta tb t1 t2 t3 r z ln who V Y when when sec f v new hR _ rfl sc hsc B X T F4 N4) (fun _ _ q => EntryPost.use q ?_) fun _ _ h => h)
  intro ln2 who2 when2 sec2 kw fl2 r2 z2 tl' t1' t2' t3' tw' u5 hP h5 tk5 F5 N5
  dsimp only
  refine wpK_of ?_
  refine wpAny_execs_nil ?_
  refine EntryPost.mk ?_ F5 N5
  rcases hP with ⟨rfl, rfl, rfl, rfl, rfl⟩ | ⟨rfl, hz⟩
  · exact inv_more hI
  · exact PQ.inv_laid hI hn hok hz
end
section
open _root_.PySem _root_.PySem.W _root_.PySem.Spec _root_.PySem.Calls _root_.PyProof.Rows
theorem told_LJ : True := by
  k_with_none
  w_top off
  k_with "own omega" => (with_reducible first | exact om6 (by assumption) rfl | exact om0 (by assumption) | exact om2 (by assumption) rfl | exact om3 (by assumption) rfl | exact om4 (by assumption) rfl | exact Int.emod_nonneg _ (by decide) | exact Int.emod_lt_of_pos _ (by decide) | exact om8 (by assumption) rfl | exact om9 (by assumption) rfl)
  k_with "storeName" => ((k_here; k_dflt (first | ((with_reducible show wpAny _ _ (storeName _ _ (Value.int _ _)) _ _ _); refine storeG_int (by k_asm) (by k_asm) ?_ (by rfl) (by rfl); intro hq9 tq9 kq9 Fq9 Nq9) | ((with_reducible show wpAny _ _ (storeName _ _ (Value.bytes _ _)) _ _ _); refine storeG_bytes (by k_asm) (by k_asm) ?_ (by rfl) (by rfl); intro hq9 tq9 kq9 Fq9 Nq9) | (refine storeG_any (by k_asm) (by k_asm) ?_ (by rfl) (by rfl); intro hq9 kq9 Fq9 Nq9)); (try k_sweep)))
  k_with "Go" => (refine go_on (by assumption) ?_)
  k_with "own kby_size" => ((first | assumption | omega | (simp only [List.length_append, List.length_cons, List.length_nil] at *; omega)))
  k_with "subscriptTail" => ((k_here; (with_reducible show wpAny _ _ (subscriptTail _ (Expr.Slice _ _ none _) (Value.bytes (List.toArray _) _) (Value.ref _)) _ _ _); (with_reducible rename Fr _ _ _ _ => Fq9); (with_reducible rename News _ _ _ _ => Nq9); (refine BY.slice_L (s := ⟨_, _, _, _, _⟩) Fq9 Nq9 (by constructor) (by constructor) (by kby_size) ?_); intro _ _ _ Fq9 Nq9 hlenq9))
  k_with "binaryOp Add bytes bytes" => ((k_here; (with_reducible show wpAny _ _ (binaryOp Operator.Add (Value.bytes (List.toArray _) _) (Value.bytes (List.toArray _) _)) _ _ _); (refine BY.add_L (by kby_size) ?_); intro _ _))
  k_with "compareOp Eq bytes bytes" => ((k_here; (with_reducible show wpAny _ _ (compareOp CmpOp.Eq (Value.bytes (List.toArray _) _) (Value.bytes (List.toArray _) _)) _ _ _); (refine BY.eq_L ?_)))
  k_with "compareOp NotEq bytes bytes" => ((k_here; (with_reducible show wpAny _ _ (compareOp CmpOp.NotEq (Value.bytes (List.toArray _) _) (Value.bytes (List.toArray _) _)) _ _ _); (refine BY.ne_L ?_)))
  k_with "subscriptTail" => ((k_here; (with_reducible show wpAny _ _ (subscriptTail _ _ (Value.bytes (List.toArray _) _) (Value.int _ _)) _ _ _); (refine BY.item_L (by kby_size) (by first | decide | omega) (by first | omega | (simp only [List.length_append, List.length_cons, List.length_nil] at *; omega)) ?_); intro _ _))
  k_with "compareOp NotIn int bytes" => ((k_here; (with_reducible show wpAny _ _ (compareOp CmpOp.NotIn (Value.int _ _) (Value.bytes (List.toArray _) _)) _ _ _); (refine BY.notIn_B ?_)))
  k_with "call type:int" => ((k_here; (with_reducible show wpAny _ _ (call (Value.type "int") [Value.bytes (List.toArray _) _]) _ _ _); (refine IR.call_int_bytes (by assumption) (by assumption) ?_)))
  k_with "getMethod bytes" => ((k_here; first | (with_reducible refine BW.meth_rindex ?_) | (with_reducible refine BW.meth_rsplit ?_) | (with_reducible refine BW.meth_split ?_) | (with_reducible refine BW.meth_join ?_)))
  k_with "call builtin:bytes.rindex" => ((k_here; first
  | (refine BW.rindex_found (by with_reducible assumption) ?_; intro _ _)
  | (refine BW.rindex_not (by with_reducible assumption) (by first | exact rfl | assumption) ?_; intro _ _ _ _ hxq9)))
  k_with "call builtin:bytes.rsplit" => ((k_here; first
  | (refine BW.rsplit_two (by k_asm) (by k_asm) (by kby_size) (by with_reducible assumption) ?_; intro Dq9 t1q9 t2q9 hq9 kq9 Fq9 Nq9 l1q9; (try k_lt l1q9))
  | (refine BW.rsplit_one (by k_asm) (by k_asm) (by kby_size) (by with_reducible assumption) ?_; intro Dq9 t1q9 hq9 kq9 Fq9 Nq9 l1q9; (try k_lt l1q9))))
  k_with "call builtin:bytes.split" => ((k_here; (refine BW.split_L (by k_asm) (by k_asm) (by kby_size) ?_); intro Dq9 vsq9 hq9 kq9 hvsq9 Fq9 Nq9 l1q9; (try k_lt l1q9)))
  k_with "call builtin:bytes.join" => ((k_here; (refine BW.join_L (News.isList (by k_asm) (by k_mem)) (by with_reducible assumption) (by kby_size) ?_); intro _ _))
  k_with "assign Tuple" => ((k_here; (with_reducible show wpAny _ _ (assign (Expr.Tuple _ _ _) _ (Value.ref _)) _ _ _); (refine BW.unpack_one (News.isList (by k_asm) (by k_mem)) (by exact rfl) (by exact rfl) (by exact rfl) ?_); intro _ _ _ _ hxq9))
  k_with "subscriptTail" => ((k_here; (with_reducible show wpAny _ _ (subscriptTail _ _ (Value.ref _) (Value.int _ _)) _ _ _); (refine BW.item_BL (News.isList (by k_asm) (by k_mem)) (by with_reducible assumption) (by first | assumption | omega) (by first | assumption | omega) (by first | assumption | omega) ?_); intro _))
  k_with "noteFrame ref" => ((k_here; k_dflt ((with_reducible rename Heap.MadeExc _ _ _ _ _ => hxMq9); (refine look_made2 (Heap.MadeExc.of hxMq9) (by k_asm) (by k_asm) (by assumption) ?_); clear hxMq9; intro hq9 tq9 Gq9 Fq9 Rq9 alq9 Uq9; (try dsimp only at Rq9 Uq9 ⊢))))
  k_with "leaving ref" => ((k_here; k_dflt ((with_reducible rename KtsDicts _ _ => kdX); (with_reducible rename Heap.MadeExc _ _ _ _ _ => hxMq9); (refine leave_raise2 (by assumption) (Heap.MadeExc.of hxMq9) (by assumption) (by k_asm) ?_); intro hq9 tq9 Sq9 alq9 Uq9; (have Rq9 := RaisedS.toK Sq9); (try dsimp only at Sq9 Rq9 Uq9 ⊢))))
  k_with "noteFrame ref" => ((k_here; k_dflt ((rename RaisedS _ _ _ _ _ _ _ _ _ => rsX); (with_reducible rename Alone _ _ => alX); (with_reducible show wpAny _ _ (noteFrame _ _) (fun _ s₂ => wpAny _ _ (setFlight _ none) (fun _ s₃ => wpAny _ _ (handleBy _ _ [ExceptHandler.ExceptHandler _ (some _) [Stmt.Raise (some _) (some _) _] _]) _ _ s₃) _ s₂) _ _); (refine look_on2 rsX alX (by assumption) (by assumption) ?_); intro hq9 Rq9 alq9 Uq9; (try dsimp only at Rq9 Uq9 ⊢))))
  k_with "handleBy ref" => ((k_here; k_dflt ((with_reducible rename Alone _ _ => alX); (refine hit2 (by assumption) alX (by assumption) (by assumption) (by assumption) (by assumption) (by assumption) (by assumption) (by kts_test) PySem.F.excBase_Exception PySem.F.excRaise_ValueError (by k_is) (by k_exc) ?_ (fun _ _ hh => hh)); intro hq9 tkq9 e2q9 t2q9 Rq9 RKq9 Uq9; (try dsimp only at Rq9 RKq9 Uq9 ⊢))))
  k_with "getMethod str" => ((k_here; (with_reducible refine BE.meth_encode ?_)))
  k_with "binaryOp Mod str ref" => ((k_here; (with_reducible show wpAny _ _ (binaryOp Operator.Mod (Value.str _ _) (Value.ref _)) _ _ _); k_dflt ((refine BF.fmt_rule (by k_asm) (by k_mem) (by decide +kernel) (by first | exact PG.fd1 (by omega) | exact PG.fd2 (by omega)) PG.fd3 ?_); intro _ _)))
  k_with "call builtin:str.encode" => ((k_here; k_dflt ((refine BE.encode (BF.ascii_fmt _ _ (by decide +kernel)) (BF.size_fmt (by decide +kernel) (by first | exact PG.fd1 (by omega) | exact PG.fd2 (by omega)) PG.fd3) ?_); intro _ _)))
  k_with "call type:str" => ((k_here; k_dflt (refine P.str_of_int (BF.log_lt (by omega)) ?_)))
  k_with "call builtin:str.encode" => ((k_here; k_dflt ((refine BE.encode (BF.ascii_int _) (PH.size_int (by omega)) ?_); intro _ _)))
  k_with "call builtin:bytes.join" => ((k_here; k_dflt ((refine BW.join_L (News.isList (by k_asm) (by k_mem)) (bytesAre_cons (bytesAre_cons (bytesAre_cons bytesAre_nil))) (PH.join3 (by assumption) (Nat.le_trans (PH.octs_int_len (by omega)) (by decide)) (Nat.le_trans (PH.octs_fmt_len (by decide +kernel) (by first | exact PG.fd1 (by omega) | exact PG.fd2 (by omega)) PG.fd3) (by decide))) ?_); intro _ _)))
  k_with "subscriptTail" => ((k_here; (with_reducible show wpAny _ _ (subscriptTail _ (PySem.Expr.Slice _ _ none _) (Value.ref _) (Value.ref _)) _ _ _); k_dflt (first
  | (refine BS.slice_from (by k_asm) (by k_asm) (News.isList (by k_asm) (by k_mem)) (by with_reducible assumption) (by constructor) (by constructor) (by omega) (by (try simp only [List.length_drop, List.length_take]); omega) ?_)
  | (refine BS.slice_upto (by k_asm) (by k_asm) (News.isList (by k_asm) (by k_mem)) (by with_reducible assumption) (by constructor) (by constructor) (by omega) (by (try simp only [List.length_drop, List.length_take]); omega) ?_)
  | (refine BS.slice_less (by k_asm) (by k_asm) (News.isList (by k_asm) (by k_mem)) (by with_reducible assumption) (by constructor) (by constructor) (by (try simp only [List.length_drop, List.length_take]); omega) ?_)); intro Dq9 wsq9 hq9 hvsq9 Fq9 Nq9 l1q9; (try k_lt l1q9)))
  k_with "subscriptTail" => ((k_here; (with_reducible show wpAny _ _ (subscriptTail _ _ (Value.ref _) (Value.int (-1) _)) _ _ _); (refine BS.item_last (News.isList (by k_asm) (by k_mem)) (by with_reducible assumption) (by first | assumption | omega) (by first | assumption | omega) ?_); intro _))
  k_with "call builtin:len" => ((k_here; (with_reducible show wpAny _ _ (call (Value.builtin "len") [Value.ref _]) _ _ _); (refine BS.len_B (News.isList (by k_asm) (by k_mem)) (by with_reducible assumption) (by (try simp only [List.length_drop, List.length_take]); omega) ?_); intro _ _))
  k_with "call builtin:divmod" => ((k_here; (with_reducible show wpAny _ _ (call (Value.builtin _) [Value.int _ _, Value.int _ _]) _ _ _); (refine divmod_K (by k_asm) (by k_asm) (by first | assumption | omega) (by assumption) ?_); intro Dq9 hq9 _ _ _ Fq9 Nq9 l1q9; (try k_lt l1q9)))
  trivial
noncomputable def HeadPost (g : Heap) (L : Addr) (s : Shared) (kd : Int) (ln who : List UInt8) (when sec : Int) (fl : Bool) (tl : Tok) (r z : Addr) (news : Led) (f : Flow) (s' : Shared) : Prop := f = .next ∧
  ∃ (rs : Int) (t4 t5 t6 t7 : Tok) (u : Str → Option Value), Leaves g L s s' (ovr [(Str.ofString "line", .bytes ln.toArray tl), (Str.ofString "record", .ref r), (Str.ofString "kind", .int kd t4), (Str.ofString "rest", .int rs t5), (Str.ofString "who", .bytes who.toArray t6), (Str.ofString "when", .int when t7), (Str.ofString "zone", .ref z)] u) news
@[elab_as_elim] theorem HeadPost.use {g : Heap} {L : Addr} {s : Shared} {kd : Int} {ln who : List UInt8} {when sec : Int} {fl : Bool} {tl : Tok} {r z : Addr} {news : Led} {f : Flow} {s' : Shared} {MOT : Flow → Shared → Prop} (q : HeadPost g L s kd ln who when sec fl tl r z news f s')
    (k : ∀ (rs : Int) (t4 t5 t6 t7 : Tok) (u : Str → Option Value), ∀ (h' : Heap) (tk : Nat), Fr g L h' (ovr [(Str.ofString "line", .bytes ln.toArray tl), (Str.ofString "record", .ref r), (Str.ofString "kind", .int kd t4), (Str.ofString "rest", .int rs t5), (Str.ofString "who", .bytes who.toArray t6), (Str.ofString "when", .int when t7), (Str.ofString "zone", .ref z)] u) → News g L h' news → MOT .next { s with heap := h', toks := tk }) : MOT f s' := by
  obtain ⟨rfl, rs, t4, t5, t6, t7, u, h', tk, rfl, F, N⟩ := q
  exact k rs t4 t5 t6 t7 u h' tk F N
theorem head_post {g h' : Heap} {L : Addr} {s : Shared} {tk : Nat} {M : Str → Option Value} {kd rs : Int} {ln who : List UInt8} {when sec : Int} {fl : Bool} {tl t4 t5 t6 t7 : Tok} {r z : Addr} {news : Led} (F : Fr g L h' M) (N : News g L h' news)
    (hk : ∀ p ∈ ([(Str.ofString "line", .bytes ln.toArray tl), (Str.ofString "record", .ref r), (Str.ofString "kind", .int kd t4), (Str.ofString "rest", .int rs t5), (Str.ofString "who", .bytes who.toArray t6), (Str.ofString "when", .int when t7), (Str.ofString "zone", .ref z)] : List (Str × Value)), M p.1 = some p.2) :
    HeadPost g L s kd ln who when sec fl tl r z news .next { s with heap := h', toks := tk } := ⟨rfl, rs, t4, t5, t6, t7, M, h', tk, rfl, fr_ovr _ F hk, N⟩
theorem late_same (k : Int) : decide (k > 9223372036854775807) = decide ((2 : Int) ^ Int.toNat 63 ≤ k) := by
  have e : (2 : Int) ^ Int.toNat 63 = 9223372036854775808 := by decide
  rw [e]
  exact decide_eq_decide.mpr ⟨fun h => h, fun h => h⟩
set_option maxHeartbeats 1000000 in
theorem law_sets (w : World) (mean : ExcName → Option Value) (mg mb : Str → Option Value) (fa : Addr) (cd : Value) (h₀ : Heap) (L : Addr) (m' : Str → Option Value) (news : Led) (s : Shared) (tl tn t1 t2 t3 : Tok) (r z : Addr) (ln who : List UInt8) (when sec x : Int) (f : Bool) :
    ∀ (st : List Stmt) (hst : st = ((turnAt w).drop 1).take 2) (sc : Scope) (hsc : sc = scopeAt w 222)
    (B : Below callerA h₀ [] h₀) (X : (hd.heap_1 w.params).In h₀) (T : Top hd.view_1 (looseW hd.view_1 [Str.ofString "format_timezone"]) mean mg mb h₀)
    (F : Fr h₀ L s.heap (ovr [(Str.ofString "line", .bytes ln.toArray tl), (Str.ofString "record", .ref r), (Str.ofString "number", .int x tn)] m'))
    (N : News h₀ L s.heap ((r, tupO [.bytes who.toArray t1, .int when t2, .ref z]) :: (z, tupO [.int sec t3, .bool f]) :: news)),
    wpK (model Challenge.rw_ai0005_01.row.prog w) (callerA.deeper (envOf (Str.ofString "law") sc L fa cd)) (execs st (envOf (Str.ofString "law") sc L fa cd))
      (HeadPost h₀ L s (x.fmod 8) ln who when sec f tl r z ((r, tupO [.bytes who.toArray t1, .int when t2, .ref z]) :: (z, tupO [.int sec t3, .bool f]) :: news)) (fun _ _ => False) s := by
  k_fill
  intro st hst sc hsc B X T F N
  conv at hst => rhs; dsimp only [turnAt, thenOf, elseOf, stAt, subS]
  conv at hst => rhs; whnf
  conv at hsc => rhs; whnf
  subst hst hsc
  dsimp only [ovr] at F
  refine wpK_execs_cons (wpK_of ?_)
  k_steps
  dsimp only
  refine wpK_execs_cons (wpK_of ?_)
  k_steps
  dsimp only
  refine wpK_of ?_
  show wpAny _ _ (execs [] _) _ _ _
  k_steps
  exact head_post (by assumption) (news_sub (by assumption) (fun p hp => .tail _ hp)) (by kst_all)
set_option maxHeartbeats 1000000 in
theorem law_lateOk (w : World) (mean : ExcName → Option Value) (mg mb : Str → Option Value) (fa : Addr) (cd : Value) (h₀ : Heap) (L : Addr) (m' : Str → Option Value) (news : Led) (s : Shared) (tl tw : Tok) (r : Addr) (ln : List UInt8) (kw : Int) :
    ∀ (st : Stmt) (hst : st = (turnAt w).getD 4 (.Pass default)) (sc : Scope) (hsc : sc = scopeAt w 222)
    (B : Below callerA h₀ [] h₀) (X : (hd.heap_1 w.params).In h₀) (T : Top hd.view_1 (looseW hd.view_1 [Str.ofString "format_timezone"]) mean mg mb h₀)
    (F : Fr h₀ L s.heap (ovr [(Str.ofString "when", .int kw tw), (Str.ofString "line", .bytes ln.toArray tl), (Str.ofString "record", .ref r)] m'))
    (N : News h₀ L s.heap news),
    wpK (model Challenge.rw_ai0005_01.row.prog w) (callerA.deeper (envOf (Str.ofString "law") sc L fa cd)) (exec st (envOf (Str.ofString "law") sc L fa cd))
      (KeepPost h₀ L s [(Str.ofString "line", .bytes ln.toArray tl), (Str.ofString "record", .ref r)] news) (fun _ _ => False) s := by
  k_fill
  intro st hst sc hsc B X T F N
  conv at hst => rhs; whnf
  conv at hsc => rhs; whnf
  subst hst hsc
  dsimp only [ovr] at F
  refine wpK_If (wpK_isTrue_Compare1 (wpK_Call ?_))
  k_steps
  refine wpK_callWith (K := hd.heap_1 w.params) ?_ ?_
  · k_is
  k_steps
  refine late_con w mean mg mb _ _ _ _ _ _ _ _ _ _ _ _ _ (by k_asm) (by k_asm) (by k_asm) (by k_asm) (by k_asm) rfl ?_
  intro v new h' tk' hR F' N'
  obtain ⟨rfl, rfl⟩ := hR
  dsimp only [List.nil_append] at N'
  refine wpK_of ?_
  k_steps
  · rename (_ != _) = _ => a
    rw [late_same] at a
    cases kl : decide (2 ^ Int.toNat 63 ≤ kw) <;> rw [kl] at a <;> cases a
  · refine wpK_of ?_
    show wpAny _ _ (execs [] _) _ _ _
    k_steps
    exact ⟨rfl, _, _, _, rfl, fr_ovr [(Str.ofString "line", .bytes ln.toArray tl), (Str.ofString "record", .ref r)] (by assumption) (by kst_all), by assumption⟩

set_option maxHeartbeats 1000000 in
theorem law_branch (w : World) (mean : ExcName → Option Value) (mg mb : Str → Option Value) (fa : Addr) (cd : Value) (h₀ : Heap) (L : Addr) (m' : Str → Option Value) (news : Led) (s : Shared) (n : Nat) (tl t1 t2 t3 t4 t5 t6 t7 : Tok) (r z : Addr) (ln who : List UInt8) (when sec kd rs : Int) (f : Bool)
    (hI : PQ.Inv n ln who when sec f) (hn : n ≤ 5) (k0 : 0 ≤ kd) (k8 : kd < 8) :
    ∀ (st : Stmt) (hst : st = (turnAt w).getD 3 (.Pass default)) (sc : Scope) (hsc : sc = scopeAt w 222)
    (B : Below callerA h₀ [] h₀) (X : (hd.heap_1 w.params).In h₀) (T : Top hd.view_1 (looseW hd.view_1 [Str.ofString "format_timezone"]) mean mg mb h₀)
    (F : Fr h₀ L s.heap (ovr [(Str.ofString "line", .bytes ln.toArray tl), (Str.ofString "record", .ref r), (Str.ofString "kind", .int kd t4), (Str.ofString "rest", .int rs t5), (Str.ofString "who", .bytes who.toArray t6), (Str.ofString "when", .int when t7), (Str.ofString "zone", .ref z)] m'))
    (N : News h₀ L s.heap ((r, tupO [.bytes who.toArray t1, .int when t2, .ref z]) :: (z, tupO [.int sec t3, .bool f]) :: news)),
    wpK (model Challenge.rw_ai0005_01.row.prog w) (callerA.deeper (envOf (Str.ofString "law") sc L fa cd)) (exec st (envOf (Str.ofString "law") sc L fa cd))
      (EntryPost h₀ L s (fun ln who when sec f => PQ.Inv (n + 1) ln who when sec f) news) (fun _ _ => False) s := by
  intro st hst sc hsc B X T F N
  obtain ⟨p1, p2, p3, p4, e3⟩ : ∃ p1 p2 p3 p4 : Pos, st = .If (.Compare (.Name (Str.ofString "kind") p1) [.Lt] [.Constant (.int 4) 0 p2] p3) (thenOf ((turnAt w).getD 3 (.Pass default))) (elseOf ((turnAt w).getD 3 (.Pass default))) p4 := ⟨_, _, _, _, hst⟩
  clear hst
  subst e3
  have hM : kd < 4 → ∀ tk, wpK (model Challenge.rw_ai0005_01.row.prog w) (callerA.deeper (envOf (Str.ofString "law") sc L fa cd)) (execs (thenOf ((turnAt w).getD 3 (.Pass default))) (envOf (Str.ofString "law") sc L fa cd)) (EntryPost h₀ L s (fun ln who when sec f => PQ.Inv (n + 1) ln who when sec f) news) (fun _ _ => False) { s with toks := tk } :=
    fun h tk => wpK_mono (law_moves w mean mg mb fa cd h₀ L m' news { s with toks := tk } n tl t1 t2 t3 t4 t5 t6 t7 r z ln who when sec kd rs f hI hn h _ rfl sc hsc B X T F N) (fun _ _ h => h) fun _ _ h => h
  have hL : ¬ kd < 4 → ∀ tk, wpK (model Challenge.rw_ai0005_01.row.prog w) (callerA.deeper (envOf (Str.ofString "law") sc L fa cd)) (execs (elseOf ((turnAt w).getD 3 (.Pass default))) (envOf (Str.ofString "law") sc L fa cd)) (EntryPost h₀ L s (fun ln who when sec f => PQ.Inv (n + 1) ln who when sec f) news) (fun _ _ => False) { s with toks := tk } :=
    fun h tk => wpK_mono (law_lays w mean mg mb fa cd h₀ L m' news { s with toks := tk } n tl t1 t2 t3 t4 t5 t6 t7 r z ln who when sec kd rs f hI hn (il4 h (by assumption)) _ rfl sc hsc B X T F N) (fun _ _ h => h) fun _ _ h => h
  generalize thenOf ((turnAt w).getD 3 (.Pass default)) = bt at *
  generalize elseOf ((turnAt w).getD 3 (.Pass default)) = bl at *
  generalize EntryPost h₀ L s (fun ln who when sec f => PQ.Inv (n + 1) ln who when sec f) news = Q at *
  clear hI hn
  k_fill
  conv at hsc => rhs; whnf
  subst hsc
  dsimp only [ovr] at F
  refine wpK_If (wpK_of ?_)
  k_steps
  · exact hM (by assumption) _
  · exact hL (by assumption) _
noncomputable def TurnDone (n : Nat) (g : Heap) (L : Addr) (s : Shared) (news : Led) (f : Flow) (s' : Shared) : Prop := f = .next ∧
  ∃ (ln who : List UInt8) (when sec : Int) (fl : Bool) (r z : Addr) (tl t1 t2 t3 : Tok) (u : Str → Option Value), PQ.Inv n ln who when sec fl ∧
    Leaves g L s s' (ovr [(Str.ofString "line", .bytes ln.toArray tl), (Str.ofString "record", .ref r)] u) ((r, tupO [.bytes who.toArray t1, .int when t2, .ref z]) :: (z, tupO [.int sec t3, .bool fl]) :: news)
theorem TurnDone.mk {n : Nat} {g : Heap} {L : Addr} {s : Shared} {news : Led} {ln who : List UInt8} {when sec : Int} {fl : Bool} {r z : Addr} {tl t1 t2 t3 : Tok} {u : Str → Option Value} {h' : Heap} {tk : Nat} (c0 : PQ.Inv n ln who when sec fl) (F : Fr g L h' (ovr [(Str.ofString "line", .bytes ln.toArray tl), (Str.ofString "record", .ref r)] u)) (N : News g L h' ((r, tupO [.bytes who.toArray t1, .int when t2, .ref z]) :: (z, tupO [.int sec t3, .bool fl]) :: news)) : TurnDone n g L s news .next { s with heap := h', toks := tk } := ⟨rfl, ln, who, when, sec, fl, r, z, tl, t1, t2, t3, u, c0, h', tk, rfl, F, N⟩
@[elab_as_elim] theorem TurnDone.use {n : Nat} {g : Heap} {L : Addr} {s : Shared} {news : Led} {f : Flow} {s' : Shared} {MOT : Flow → Shared → Prop} (q : TurnDone n g L s news f s')
    (k : ∀ (ln who : List UInt8) (when sec : Int) (fl : Bool) (r z : Addr) (tl t1 t2 t3 : Tok) (u : Str → Option Value), PQ.Inv n ln who when sec fl → ∀ (h' : Heap) (tk : Nat), Fr g L h' (ovr [(Str.ofString "line", .bytes ln.toArray tl), (Str.ofString "record", .ref r)] u) → News g L h' ((r, tupO [.bytes who.toArray t1, .int when t2, .ref z]) :: (z, tupO [.int sec t3, .bool fl]) :: news) → MOT .next { s with heap := h', toks := tk }) : MOT f s' := by
  obtain ⟨rfl, ln, who, when, sec, fl, r, z, tl, t1, t2, t3, u, c0, h', tk, rfl, F, N⟩ := q
  exact k ln who when sec fl r z tl t1 t2 t3 u c0 h' tk F N
set_option maxHeartbeats 1000000 in
theorem law_turn (w : World) (mean : ExcName → Option Value) (mg mb : Str → Option Value) (fa : Addr) (cd : Value) (h₀ : Heap) (L : Addr) (m' : Str → Option Value) (news : Led) (s : Shared) (n : Nat) (tl tn t1 t2 t3 : Tok) (r z : Addr) (ln who : List UInt8) (when sec x : Int) (f : Bool)
    (hI : PQ.Inv n ln who when sec f) (hn : n ≤ 5) :
    ∀ (st : List Stmt) (hst : st = turnAt w) (sc : Scope) (hsc : sc = scopeAt w 222)
    (B : Below callerA h₀ [] h₀) (X : (hd.heap_1 w.params).In h₀) (T : Top hd.view_1 (looseW hd.view_1 [Str.ofString "format_timezone"]) mean mg mb h₀)
    (F : Fr h₀ L s.heap (ovr [(Str.ofString "line", .bytes ln.toArray tl), (Str.ofString "record", .ref r), (Str.ofString "number", .int x tn)] m'))
    (N : News h₀ L s.heap ((r, tupO [.bytes who.toArray t1, .int when t2, .ref z]) :: (z, tupO [.int sec t3, .bool f]) :: news)),
    wpK (model Challenge.rw_ai0005_01.row.prog w) (callerA.deeper (envOf (Str.ofString "law") sc L fa cd)) (execs st (envOf (Str.ofString "law") sc L fa cd))
      (TurnDone (n + 1) h₀ L s news) (fun _ _ => False) s := by
  intro st hst sc hsc B X T F N
  have e : st = (turnAt w).getD 0 (.Pass default) :: (((turnAt w).drop 1).take 2 ++ [(turnAt w).getD 3 (.Pass default), (turnAt w).getD 4 (.Pass default)]) := hst.trans rfl
  rw [e]
  clear e hst st
  refine wpK_execs_cons (wpK_mono (law_told w mean mg mb fa cd h₀ L (ovr [(Str.ofString "number", .int x tn)] m') news s tl t1 t2 t3 r z ln who when sec f hI.len hI.hb hI.told _ rfl sc hsc B X T F N) (fun _ _ q => NextPost.use q ?_) fun _ _ h => h)
  intro h1 tk1 F1 N1
  dsimp only
  refine wpK_execs_append (wpK_mono (law_sets w mean mg mb fa cd h₀ L m' news _ tl tn t1 t2 t3 r z ln who when sec x f _ rfl sc hsc B X T F1 N1) (fun _ _ q => HeadPost.use q ?_) fun _ _ h => h)
  intro rs t4 t5 t6 t7 u h2 tk2 F2 N2
  dsimp only
  refine wpK_execs_cons (wpK_mono (law_branch w mean mg mb fa cd h₀ L u news _ n tl t1 t2 t3 t4 t5 t6 t7 r z ln who when sec (x.fmod 8) rs f hI hn (Int.fmod_nonneg_of_pos _ (by decide)) (Int.fmod_lt_of_pos _ (by decide)) _ rfl sc hsc B X T F2 N2) (fun _ _ q => EntryPost.use q ?_) fun _ _ h => h)
  intro ln2 who2 when2 sec2 kw fl2 r2 z2 tl' t1' t2' t3' tw' u3 hP h3 tk3 F3 N3
  dsimp only
  refine wpK_execs_cons (wpK_mono (law_lateOk w mean mg mb fa cd h₀ L u3 _ _ tl' tw' r2 ln2 kw _ rfl sc hsc B X T F3 N3) (fun _ _ q => KeepPost.use q ?_) fun _ _ h => h)
  intro u4 h4 tk4 F4 N4
  dsimp only
  refine wpK_of ?_
  refine wpAny_execs_nil ?_
  exact TurnDone.mk hP F4 N4
end
section
open _root_.PySem _root_.PySem.W _root_.PySem.Spec _root_.PySem.Calls _root_.PyProof.Rows
theorem told_LK : True := by
  w_top off
  trivial
noncomputable def FirstPost (g : Heap) (L : Addr) (s : Shared) (sl : Addr) (f : Flow) (s' : Shared) : Prop := f = .next ∧
  ∃ (r z : Addr) (tl t1 t2 t3 : Tok) (u : Str → Option Value), Leaves g L s s' (ovr [(Str.ofString "line", .bytes ([65,32,60,97,64,98,62,32,48,32,43,48,48,48,48] : List UInt8).toArray tl), (Str.ofString "record", .ref r), (Str.ofString "script", .ref sl)] u)
    [(r, tupO [.bytes ([65,32,60,97,64,98,62] : List UInt8).toArray t1, .int 0 t2, .ref z]), (z, tupO [.int 0 t3, .bool false])]
@[elab_as_elim] theorem FirstPost.use {g : Heap} {L : Addr} {s : Shared} {sl : Addr} {f : Flow} {s' : Shared} {MOT : Flow → Shared → Prop} (q : FirstPost g L s sl f s')
    (k : ∀ (r z : Addr) (tl t1 t2 t3 : Tok) (u : Str → Option Value), ∀ (h' : Heap) (tk : Nat), Fr g L h' (ovr [(Str.ofString "line", .bytes ([65,32,60,97,64,98,62,32,48,32,43,48,48,48,48] : List UInt8).toArray tl), (Str.ofString "record", .ref r), (Str.ofString "script", .ref sl)] u) → News g L h' [(r, tupO [.bytes ([65,32,60,97,64,98,62] : List UInt8).toArray t1, .int 0 t2, .ref z]), (z, tupO [.int 0 t3, .bool false])] → MOT .next { s with heap := h', toks := tk }) : MOT f s' := by
  obtain ⟨rfl, r, z, tl, t1, t2, t3, u, h', tk, rfl, F, N⟩ := q
  exact k r z tl t1 t2 t3 u h' tk F N
theorem first_post {g h' : Heap} {L : Addr} {s : Shared} {tk : Nat} {M : Str → Option Value} {sl r z : Addr} {tl t1 t2 t3 : Tok} {o1 : Addr × Obj}
    (N : News g L h' [o1, (r, tupO [.bytes ([65,32,60,97,64,98,62] : List UInt8).toArray t1, .int 0 t2, .ref z]), (z, tupO [.int 0 t3, .bool false])]) (F : Fr g L h' M)
    (hk : ∀ p ∈ ([(Str.ofString "line", .bytes ([65,32,60,97,64,98,62,32,48,32,43,48,48,48,48] : List UInt8).toArray tl), (Str.ofString "record", .ref r), (Str.ofString "script", .ref sl)] : List (Str × Value)), M p.1 = some p.2) : FirstPost g L s sl .next { s with heap := h', toks := tk } :=
  ⟨rfl, r, z, tl, t1, t2, t3, M, h', tk, rfl, fr_ovr _ F hk, news_sub N (fun p hp => .tail _ hp)⟩
set_option maxHeartbeats 1000000 in
theorem law_first (w : World) (mean : ExcName → Option Value) (mg mb : Str → Option Value) (fa : Addr) (cd : Value) (h₀ : Heap) (L : Addr) (m' : Str → Option Value) (s : Shared) (sl : Addr) :
    ∀ (st : Stmt) (hst : st = stAt w 222 0) (sc : Scope) (hsc : sc = scopeAt w 222)
    (B : Below callerA h₀ [] h₀) (X : (hd.heap_1 w.params).In h₀) (T : Top hd.view_1 (looseW hd.view_1 [Str.ofString "format_timezone"]) mean mg mb h₀)
    (F : Fr h₀ L s.heap (ovr [(Str.ofString "script", .ref sl)] m'))
    (N : News h₀ L s.heap []),
    wpK (model Challenge.rw_ai0005_01.row.prog w) (callerA.deeper (envOf (Str.ofString "law") sc L fa cd)) (exec st (envOf (Str.ofString "law") sc L fa cd))
      (FirstPost h₀ L s sl) (fun _ _ => False) s := by
  k_fill
  intro st hst sc hsc B X T F N
  conv at hst => rhs; whnf
  conv at hsc => rhs; whnf
  subst hst hsc
  dsimp only [ovr] at F
  refine wpK_of ?_
  k_steps
  exact first_post (by assumption) (by assumption) (by kst_all)

set_option maxHeartbeats 1000000 in
theorem law_ends (w : World) (mean : ExcName → Option Value) (mg mb : Str → Option Value) (fa : Addr) (cd : Value) (h₀ : Heap) (L : Addr) (m' : Str → Option Value) (news : Led) (s : Shared) (tl t1 t2 t3 : Tok) (r z : Addr) (ln who : List UInt8) (when sec : Int) (f : Bool)
    (hlen : ln.length ≤ 600) (hb : PQ.Hb ln) (ht : ltF ln = some (who, some (when, (sec, f)))) :
    ∀ (st : Stmt) (hst : st = stAt w 222 2) (sc : Scope) (hsc : sc = scopeAt w 222)
    (B : Below callerA h₀ [] h₀) (X : (hd.heap_1 w.params).In h₀) (T : Top hd.view_1 (looseW hd.view_1 [Str.ofString "format_timezone"]) mean mg mb h₀)
    (F : Fr h₀ L s.heap (ovr [(Str.ofString "line", .bytes ln.toArray tl), (Str.ofString "record", .ref r)] m'))
    (N : News h₀ L s.heap ((r, tupO [.bytes who.toArray t1, .int when t2, .ref z]) :: (z, tupO [.int sec t3, .bool f]) :: news)),
    wpK (model Challenge.rw_ai0005_01.row.prog w) (callerA.deeper (envOf (Str.ofString "law") sc L fa cd)) (exec st (envOf (Str.ofString "law") sc L fa cd))
      (fun f s' => f = .ret (.bool true) ∧ ∃ u, Leaves h₀ L s s' u news) (fun _ _ => False) s := by
  k_fill
  intro st hst sc hsc B X T F N
  conv at hst => rhs; whnf
  conv at hsc => rhs; whnf
  subst hst hsc
  dsimp only [ovr] at F
  refine wpK_Return (wpK_Compare1 (wpK_Call ?_))
  k_steps
  refine wpK_callWith (K := hd.heap_1 w.params) ?_ ?_
  · k_is
  k_steps
  refine line_told w mean mg mb ln _ hlen hb _ _ _ _ _ _ _ _ _ _ _ (by k_asm) (by k_asm) (by k_asm) (by k_asm) (by k_asm) rfl ?_
  intro v new h' tk' hR F' N'
  refine wpK_of ?_
  k_steps
  have hrec : RetLine (ltF ln) (.ref r) [(r, tupO [.bytes who.toArray t1, .int when t2, .ref z]), (z, tupO [.int sec t3, .bool f])] := by rw [ht]; exact ⟨r, z, t1, t2, t3, rfl, rfl⟩
  rename News _ _ _ _ => N'
  refine EQ.eq_of (EQ.line_eq N' hR hrec (fun p hp => List.mem_append_left _ hp) (fun p hp => List.mem_append_right _ (by simp only [List.mem_cons, List.not_mem_nil, or_false] at hp ⊢; rcases hp with h | h; exact .inl h; exact .inr (.inl h))) (by first | units_room | exact Nat.le_of_ble_eq_true rfl)).1 ?_
  exact ⟨rfl, _, _, _, rfl, F', news_sub N' (fun p hp => List.mem_append_right _ (.tail _ (.tail _ hp)))⟩

theorem inv_le {n k : Nat} {ln who : List UInt8} {when sec : Int} {f : Bool} (h : n ≤ k) (hI : PQ.Inv n ln who when sec f) : PQ.Inv k ln who when sec f := by
  induction h with
  | refl => exact hI
  | step _ ih => exact inv_more ih
theorem ints_six {ws : List Value} {ns : List Int} {k : Int} (h : IntsAre ws (ns.take 5 ++ [k])) : ws.toArray.size ≤ 6 := by
  have e := h.sizeZ
  rw [List.length_append, List.length_take, List.length_cons, List.length_nil] at e
  rw [Int.ofNat.inj e]; exact Nat.succ_le_succ (Nat.min_le_left _ _)
theorem fr_at {g h : Heap} {L : Addr} {M : Str → Option Value} (kv : List (Str × Value)) (F : Fr g L h M) (hk : AllAt M kv) : Fr g L h (ovr kv M) := fr_ovr kv F hk.all
noncomputable def LoopJ (i : Nat) (m : Str → Option Value) (nx : Led) : Prop := ∃ (ln who : List UInt8) (when sec : Int) (fl : Bool) (r z : Addr) (tl t1 t2 t3 : Tok), nx = [(r, tupO [.bytes who.toArray t1, .int when t2, .ref z]), (z, tupO [.int sec t3, .bool fl])] ∧ PQ.Inv i ln who when sec fl ∧
  ∀ p ∈ ([(Str.ofString "line", .bytes ln.toArray tl), (Str.ofString "record", .ref r)] : List (Str × Value)), m p.1 = some p.2
theorem LoopJ.mk {i : Nat} {m : Str → Option Value} {ln who : List UInt8} {when sec : Int} {fl : Bool} {r z : Addr} {tl t1 t2 t3 : Tok} (hI : PQ.Inv i ln who when sec fl) (hk : ∀ p ∈ ([(Str.ofString "line", .bytes ln.toArray tl), (Str.ofString "record", .ref r)] : List (Str × Value)), m p.1 = some p.2) :
    LoopJ i m [(r, tupO [.bytes who.toArray t1, .int when t2, .ref z]), (z, tupO [.int sec t3, .bool fl])] := ⟨ln, who, when, sec, fl, r, z, tl, t1, t2, t3, rfl, hI, hk⟩
@[elab_as_elim] theorem LoopJ.use {i : Nat} {m : Str → Option Value} {nx : Led} {MOT : Led → Prop} (q : LoopJ i m nx) (k : ∀ (ln who : List UInt8) (when sec : Int) (fl : Bool) (r z : Addr) (tl t1 t2 t3 : Tok), PQ.Inv i ln who when sec fl →
    (∀ p ∈ ([(Str.ofString "line", .bytes ln.toArray tl), (Str.ofString "record", .ref r)] : List (Str × Value)), m p.1 = some p.2) → MOT [(r, tupO [.bytes who.toArray t1, .int when t2, .ref z]), (z, tupO [.int sec t3, .bool fl])]) : MOT nx := by
  obtain ⟨ln, who, when, sec, fl, r, z, tl, t1, t2, t3, rfl, hI, hk⟩ := q
  exact k ln who when sec fl r z tl t1 t2 t3 hI hk
set_option maxHeartbeats 1000000 in
theorem law_loop (w : World) (mean : ExcName → Option Value) (mg mb : Str → Option Value) (fa : Addr) (cd : Value) (h₀ : Heap) (L : Addr) (m' : Str → Option Value) (s : Shared) (tl t1 t2 t3 : Tok) (r z sl : Addr) (ln who : List UInt8) (when sec : Int) (f : Bool)
    (hI : PQ.Inv 0 ln who when sec f) (vs : List Value) (ns : List Int) (hsl : h₀.IsList sl vs.toArray) (hns : IntsAre vs ns) (hlen : ns.length ≤ 63) (hlen' : vs.length ≤ 63) :
    ∀ (st : Stmt) (hst : st = stAt w 222 1) (sc : Scope) (hsc : sc = scopeAt w 222)
    (B : Below callerA h₀ [] h₀) (X : (hd.heap_1 w.params).In h₀) (T : Top hd.view_1 (looseW hd.view_1 [Str.ofString "format_timezone"]) mean mg mb h₀)
    (F : Fr h₀ L s.heap (ovr [(Str.ofString "line", .bytes ln.toArray tl), (Str.ofString "record", .ref r), (Str.ofString "script", .ref sl)] m'))
    (N : News h₀ L s.heap ((r, tupO [.bytes who.toArray t1, .int when t2, .ref z]) :: (z, tupO [.int sec t3, .bool f]) :: [])),
    wpK (model Challenge.rw_ai0005_01.row.prog w) (callerA.deeper (envOf (Str.ofString "law") sc L fa cd)) (exec st (envOf (Str.ofString "law") sc L fa cd))
      (TurnDone 6 h₀ L s []) (fun _ _ => False) s := by
  k_fill
  intro st hst sc hsc B X T F N
  conv at hst => rhs; whnf
  conv at hsc => rhs; whnf
  subst hst hsc
  dsimp only [ovr] at F
  have hLs : s.heap.IsList sl vs.toArray := hsl.at fun o e => F.keep sl o e
  refine wpK_For ?_
  k_steps
  rename Fr _ _ _ _ => F'
  rename News _ _ _ _ => N'
  rename IntsAre _ (List.take 5 ns ++ _) => hW
  have hT := News.isList N' (.head _)
  refine wpAny_pyIter_list hT ?_
  obtain ⟨oT, hoT, _⟩ := id hT
  have hlt := Heap.lt_size hoT
  have hsz := ints_six hW
  refine codeK_seq (L := L) (h₀ := h₀) LoopJ (Walks.list rfl _ _ (Nat.ne_of_lt hlt) _) ?hIt ?hax ?nIt ?nax ?LIt ?Lax ?apart ?turn ?done (F'.push _) (news_sub (fun p hp => ⟨Heap.get?_push_of_some _ (N' p hp).1, (N' p hp).2⟩) (fun p hp => .tail _ (.tail _ (.tail _ hp)))) ⟨⟨_, Heap.get?_push_size _ rfl, rfl, rfl⟩, hT.at fun o e => Heap.get?_push_of_some _ e⟩ (LoopJ.mk hI (by kst_all)) ?hgo
  case hgo => exact fun i v s Q E _ hq => wpAny_pure hq
  case hIt => exact fun i h q => ⟨_, q.1.choose_spec.1⟩
  case hax => exact fun i h q => ⟨_, q.2.choose_spec.1⟩
  case nIt => exact next_is_new F'
  case nax => exact (N' _ (.head _)).2.2
  case LIt => exact fun q => absurd F'.ns.lt (q ▸ Nat.lt_irrefl _)
  case Lax => exact (N' _ (.head _)).2.1
  case apart =>
    rintro i h m nx q ⟨_, _, _, _, _, r', z', _, _, _, _, rfl, _⟩ N1 p hp e
    obtain ⟨o, ho, hc, _⟩ := q.1
    have e1 := (N1 p hp).1
    rw [e, ho] at e1
    cases e1
    simp only [List.mem_cons, List.not_mem_nil, or_false] at hp
    rcases hp with rfl | rfl <;> exact absurd hc (by intro q; injection q with q; exact absurd q (by decide))
  case done =>
    intro m nx h tk q F1
    refine LoopJ.use q ?_
    intro ln who when sec fl r' z' tl' a1 a2 a3 hI hkv N1
    exact TurnDone.mk (inv_le hsz hI) (fr_ovr _ F1 hkv) N1
  case turn =>
    intro i v m nx h tk own hi hP q F1
    refine LoopJ.use q ?_
    intro ln who when sec fl r' z' tl' a1 a2 a3 hI hkv N1
    clear q
    have hi5 : i ≤ 5 := Nat.le_of_lt_succ (Nat.lt_of_lt_of_le hi hsz)
    obtain ⟨x, tx, rfl, _⟩ := hW.at i v (by simpa using hP)
    clear hLs hoT hT F' N' hP hi hW hlt
    have F0 := fr_ovr _ F1 hkv
    clear F1 hkv
    dsimp only [ovr] at F0
    k_steps
    rename Fr _ _ _ _ => F2
    rename News _ _ _ _ => N2
    refine wpK_mono (law_turn w mean mg mb fa cd h₀ L _ own _ i tl' _ a1 a2 a3 r' z' ln who when sec x fl hI hi5 _ rfl _ rfl B X T (fr_at [(Str.ofString "line", .bytes ln.toArray tl'), (Str.ofString "record", .ref r'), (Str.ofString "number", .int x _)] F2 (by repeat (first | exact True.intro | refine And.intro (by with_unfolding_all rfl) ?_))) (news_swap N2)) (fun _ _ q => TurnDone.use q ?_) fun _ _ h => h
    intro ln2 who2 when2 sec2 fl2 r2 z2 tl2 b1 b2 b3 u hI2 h3 tk3 F3 N3
    refine ⟨h3, tk3, _, [(r2, tupO [.bytes who2.toArray b1, .int when2 b2, .ref z2]), (z2, tupO [.int sec2 b3, .bool fl2])], rfl, F3, news_sub N3 (fun p hp => ?_), LoopJ.mk (tl := tl2) hI2 ?_⟩
    · rcases List.mem_append.mp hp with h | h
      · exact .tail _ (.tail _ h)
      · simp only [List.mem_cons, List.not_mem_nil, or_false] at h
        rcases h with rfl | rfl
        · exact .head _
        · exact .tail _ (.head _)
    · intro p hp
      simp only [List.mem_cons, List.not_mem_nil, or_false] at hp
      rcases hp with rfl | rfl <;> rfl
end
section
open _root_.PySem _root_.PySem.W _root_.PySem.Spec _root_.PySem.Calls _root_.PyProof.Rows
theorem told_LZ : True := by
  w_top off
  trivial
theorem codeK_fullW {prog : Program} {w : World} {A : Around} {R : Result → Shared → Prop} {s : Shared} {name : Str} {params : Arguments} {body : List Stmt} {scope : Scope}
    {dV kV pm cd doc : Value} {a : Addr} {o : Obj} {args : Args} {binds : List (Str × Value)}
    (hroom : A.depth < recursionLimit) (ho : s.heap.get? a = some o) (hdata : o.data = .func { docDef name params body scope pm cd doc with defaults := dV, kwdefaults := kV }) (hlim : s.heap.NoLimit) (hcd : s.heap.CodeRec cd name)
    (hbind : BindsTo s { docDef name params body scope pm cd doc with defaults := dV, kwdefaults := kV } args binds)
    (hloc : ∀ x ∈ binds, scope.names.lookup x.1 = some .local)
    (h : ∀ h₁, Fr s.heap s.heap.objs.size h₁ (fun x => binds.reverse.lookup x) →
      wpK (model prog w) (A.deeper (envOf name scope s.heap.objs.size a cd)) (execs body (envOf name scope s.heap.objs.size a cd))
        (fun f s' => R (.ok (.ret (match f with | .ret v => v | _ => .none))) s') (fun _ _ => False) { s with heap := h₁, toks := s.toks + binds.length })
    (hco : scope.isCoroutine = false) (hgen : scope.isGenerator = false) (hk : scope.kind = .function)
    (hcell : ∀ x ∈ scope.names, x.2 ≠ .cell) :
    codeK (model prog w) A (.call (.ref a) args) R s :=
  codeK_call_def hroom ho hdata hlim hcd rfl hbind hcell hloc (fun h₁ hns hkeep => wpK_mono (h h₁ ⟨hns, hkeep, Nat.le_refl _⟩) (fun _ _ x => x) fun _ _ x => x.elim) hco hgen hk

theorem ovr_one (x : Str) (v : Value) (y : Str) : ovr [(x, v)] (fun _ => none) y = List.lookup y [(x, v)].reverse := by
  show (if y = x then some v else none) = (match y == x with | true => some v | false => none)
  by_cases e : y = x
  · rw [if_pos e, beq_iff_eq.mpr e]
  · rw [if_neg e, beq_eq_false_iff_ne.mpr e]
set_option maxHeartbeats 1000000 in
theorem law_body (w : World) (mean : ExcName → Option Value) (mg mb : Str → Option Value) (fa : Addr) (cd : Value) (h₀ : Heap) (L : Addr) (m' : Str → Option Value) (s : Shared) (sl : Addr)
    (vs : List Value) (ns : List Int) (hsl : h₀.IsList sl vs.toArray) (hns : IntsAre vs ns) (hlen : ns.length ≤ 63) :
    ∀ (st : List Stmt) (hst : st = bodyAt w 222) (sc : Scope) (hsc : sc = scopeAt w 222)
    (B : Below callerA h₀ [] h₀) (X : (hd.heap_1 w.params).In h₀) (T : Top hd.view_1 (looseW hd.view_1 [Str.ofString "format_timezone"]) mean mg mb h₀)
    (F : Fr h₀ L s.heap (ovr [(Str.ofString "script", .ref sl)] m'))
    (N : News h₀ L s.heap []),
    wpK (model Challenge.rw_ai0005_01.row.prog w) (callerA.deeper (envOf (Str.ofString "law") sc L fa cd)) (execs st (envOf (Str.ofString "law") sc L fa cd))
      (fun f s' => f = .ret (.bool true) ∧ ∃ u, Leaves h₀ L s s' u []) (fun _ _ => False) s := by
  intro st hst sc hsc B X T F N
  have e : st = [stAt w 222 0, stAt w 222 1, stAt w 222 2] := hst.trans rfl
  rw [e]
  clear e hst st
  have hlen' : vs.length ≤ 63 := by have e := hns.sizeZ; rw [List.size_toArray] at e; omega
  refine wpK_execs_cons (wpK_mono (law_first w mean mg mb fa cd h₀ L m' s sl _ rfl sc hsc B X T F N) (fun _ _ q => FirstPost.use q ?_) fun _ _ h => h)
  intro r z tl t1 t2 t3 u h1 tk1 F1 N1
  dsimp only
  refine wpK_execs_cons (wpK_mono (law_loop w mean mg mb fa cd h₀ L u _ tl t1 t2 t3 r z sl _ _ 0 0 false PQ.inv_start vs ns hsl hns hlen hlen' _ rfl sc hsc B X T F1 N1) (fun _ _ q => TurnDone.use q ?_) fun _ _ h => h)
  intro ln who when sec fl r2 z2 tl2 a1 a2 a3 u2 hI h2 tk2 F2 N2
  dsimp only
  refine wpK_execs_cons (wpK_monoG (law_ends w mean mg mb fa cd h₀ L u2 [] _ tl2 a1 a2 a3 r2 z2 ln who when sec fl hI.len hI.hb hI.told _ rfl sc hsc B X T F2 N2) (fun Qv hQv => ?_) fun _ _ h => h)
  rintro _ _ ⟨rfl, u3, h3, tk3, rfl, F3, N3⟩
  refine go_on hQv ?_
  exact ⟨rfl, u3, h3, tk3, rfl, F3, N3⟩

theorem law_said : PySem.Challenge.rw_ai0005_01.wellSaid = true := by
  unfold OpenLaw.wellSaid OpenRow.wellSaid OpenRow.partSaid looksOpen
  simp -iota only [Bool.and_eq_true]
  repeat' refine And.intro ?_ ?_
  all_goals decide +kernel
set_option maxHeartbeats 4000000 in
theorem law_holds : PySem.Challenge.rw_ai0005_01.Holds := holds_law law_said fun _ => hd (by
  k_fill
  intro w s₀ s₁ mg mb G Y fa o pm cd doc dV kV ho hd hcd hD hmg hg args vals as hpre hlay hrd hwl hlo
  have KX := kIn_of Y
  have X := (Ground.X G).1
  have V := (Ground.X G).2
  refine Ground.open G ?_
  intro T B D TE TW
  try (refine guard_noD D (by decide +kernel) ?_; clear D)
  obtain ⟨_, _, M⟩ := bmod_of_top T
  have TA := at_of_top T
  try (obtain ⟨_, _, he, B0⟩ := based_of_top T rfl hmg ho hd; have he' : cd = _ := he; subst he'; clear he)
  clear hmg
  wrow_args hpre hlay hrd hwl hlo
  clear TA TE TW
  have he := Dflts.none hD rfl
  subst he
  refine wpB_ofK (wpK_call (codeK_fullW (by decide) ho hd (Top.nolimit T) hcd (BindsTo.of_eq rfl) (locs rfl) (fun h₁ F => ?_) rfl rfl rfl (by decide)))
  w_binds F
  have N := (News.nil : News _ _ _ []).at F
  have F0 : Fr s₁.heap s₁.heap.objs.size h₁ (ovr [(Str.ofString "script", _)] fun _ => none) := fr_ext F (fun y => ovr_one _ _ y)
  clear F
  rename IntsAre _ _ => hns
  rename Heap.IsList _ _ _ => hsl
  rename ¬ ((63 : Nat) : Int) < _ => hlen
  refine wpK_monoG (law_body w (ExcName.means s₀.heap) mg mb fa _ s₁.heap s₁.heap.objs.size _ _ _ _ _ hsl hns (by omega) _ rfl _ rfl (below_caller _) KX T F0 N) (fun Qv hQv => ?_) fun _ _ h => h
  rintro _ _ ⟨rfl, u3, h3, tk3, rfl, F3, N3⟩
  refine go_on hQv ?_
  clear F0 N hns hlen hsl
  dsimp only
  wrow_closeG)
end
end
end
end
end
end
end
end
end
end Mine
theorem PySem.Challenge.cw_ai0005_01_holds : PySem.Challenge.rw_ai0005_01.Holds :=
  Mine.law_holds
