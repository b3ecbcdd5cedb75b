import PyProof.Rows.All
import Wide.All
import OpenK.AllK
import Wide.FinOn
import Lean
import PySem.Challenge.RW_fq5035_01
open PySem PySem.W PyProof.Rows
set_option Elab.async false
namespace Mine
section
set_option maxRecDepth 100000
set_option maxHeartbeats 8000000
open_top hd for PySem.Challenge.rw_fq5035_01
end
end Mine
-- S2
theorem Mine.off_S2 : True := by
  w_top off
  trivial
section
open PySem PySem.W PySem.Spec PySem.Calls PyProof.Rows PyProof.V
set_option maxRecDepth 100000
namespace Mine
abbrev freshSet (led : Bool) : Obj := { cls := .type "set", dict := none, data := .set #[] 0 (.fresh 0 0 led) }
/-- adding v to the set at S takes it from P to P' -/
def AddsAll (prog : Program) (w : World) (A : Around) (E : Value → Shared → Prop) (S : Addr) (v : Value) (R : Heap → Prop) (P P' : Obj → Prop) : Prop :=
  ∀ (s : Shared) (o : Obj) (Q : Bool → Shared → Prop), s.heap.get? S = some o → P o → R s.heap →
    (∀ b h' tk o', Heap.SameBut S s.heap h' → h'.get? S = some o' → P' o' → Q b { s with heap := h', toks := tk }) → wpAny (model prog w) A (setAdd S v) Q E s

def Adds (prog : Program) (w : World) (A : Around) (s₀ : Shared) (E : Value → Shared → Prop) (S : Addr) (v : Value) (R : Heap → Prop) (P P' : Obj → Prop) : Prop :=
  ∀ (hp : Heap) (tk₀ : Nat) (o : Obj) (Q : Bool → Shared → Prop), hp.get? S = some o → P o → R hp →
    (∀ b h' tk o', Heap.SameBut S hp h' → h'.get? S = some o' → P' o' → Q b { s₀ with heap := h', toks := tk }) → wpAny (model prog w) A (setAdd S v) Q E { s₀ with heap := hp, toks := tk₀ }
theorem AddsAll.adds {prog : Program} {w : World} {A : Around} {s₀ : Shared} {E : Value → Shared → Prop} {S : Addr} {v : Value} {R : Heap → Prop} {P P' : Obj → Prop} (h : AddsAll prog w A E S v R P P') : Adds prog w A s₀ E S v R P P' :=
  fun hp tk₀ o Q ho hP hr k => h { s₀ with heap := hp, toks := tk₀ } o Q ho hP hr k

theorem codeAny_set_update_two {prog : Program} {w : World} {A : Around} {Rr : Result → Shared → Prop} {I : Addr} {fp wr : List Addr} {Pv : Nat → Value → Prop} {St : Nat → Heap → Prop}
    (W : Walks prog w A.in1 I fp wr 2 Pv St) (S : Addr) (hSf : S ∉ fp) {x y : Value} (hx : ∀ v, Pv 0 v → v = x) (hy : ∀ v, Pv 1 v → v = y)
    {R : Heap → Prop} (hR : ∀ h h' : Heap, R h → (∀ b o, b ≠ S → b ∉ wr → h.get? b = some o → h'.get? b = some o) → R h')
    {P0 P1 P2 : Obj → Prop}
    {s s₀ : Shared} {o : Obj} (hs₀ : ∃ h tk, s = { s₀ with heap := h, toks := tk }) (a1 : Adds prog w A.in1 s₀ (fun e s' => Rr (.error e) s') S x R P0 P1) (a2 : Adds prog w A.in1 s₀ (fun e s' => Rr (.error e) s') S y R P1 P2)
    (hst : St 0 s.heap) (ho : s.heap.get? S = some o) (hP : P0 o) (hRs : R s.heap)
    (h : ∀ h' tk o', h'.get? S = some o' → P2 o' → (∀ b o, b ≠ S → b ∉ wr → s.heap.get? b = some o → h'.get? b = some o) → Rr (.ok (.ret .none)) { s with heap := h', toks := tk }) :
    codeAny (model prog w) A (.builtin "set.update.loop" ⟨[.ref S, .ref I], []⟩) Rr s := by
  obtain ⟨h₀, tk₀, rfl⟩ := hs₀
  have hSw : S ∉ wr := fun h => hSf (W.sub _ h)
  -- first turn
  refine codeAny_builtin PyProof.Rows.F.entry_set_update_loop ?_
  rw [Around.under_plainId PyProof.Rows.F.plain_set_update_loop _]
  show wpAny _ A.in1 (pyNext (.ref I) >>= _) _ _ _
  refine wpAny_bind (W.item 0 _ _ _ (by decide) hst fun v h1 tk1 hP1 hst1 hk1 => ?_)
  obtain rfl := hx v hP1
  show wpAny _ A.in1 (holding [v] (setAdd S v) >>= _) _ _ _
  refine wpAny_bind (wpAny_holding ?_)
  have R1 : R h1 := hR _ _ hRs fun b o hb hw e => hk1 b o hw e
  refine a1 h1 tk1 o _ (hk1 S o hSw ho) hP R1 fun b h2 tk2 o2 hs2 ho2 hP2 => ?_
  have R2 : R h2 := hR _ _ R1 fun b o hb hw e => (hs2.2 b hb).trans e
  have hst2 : St 1 h2 := W.frame _ h1 _ hst1 fun b hb o e => by
    rw [hs2.2 b (fun h : b = S => hSf (by rw [← h]; exact hb))]; exact e
  refine wpAny_pure ⟨plainId_quiet PyProof.Rows.F.plain_set_update_loop _, ?_⟩
  -- second turn
  refine codeAny_builtin PyProof.Rows.F.entry_set_update_loop ?_
  rw [Around.under_plainId PyProof.Rows.F.plain_set_update_loop _]
  show wpAny _ A.in1 (pyNext (.ref I) >>= _) _ _ _
  refine wpAny_bind (W.item 1 _ _ _ (by decide) hst2 fun v h3 tk3 hP3 hst3 hk3 => ?_)
  obtain rfl := hy v hP3
  show wpAny _ A.in1 (holding [v] (setAdd S v) >>= _) _ _ _
  refine wpAny_bind (wpAny_holding ?_)
  have R3 : R h3 := hR _ _ R2 fun b o hb hw e => hk3 b o hw e
  refine a2 h3 tk3 o2 _ (hk3 S o2 hSw ho2) hP2 R3 fun b h4 tk4 o4 hs4 ho4 hP4 => ?_
  have hst4 : St 2 h4 := W.frame _ h3 _ hst3 fun b hb o e => by
    rw [hs4.2 b (fun h : b = S => hSf (by rw [← h]; exact hb))]; exact e
  refine wpAny_pure ⟨plainId_quiet PyProof.Rows.F.plain_set_update_loop _, ?_⟩
  -- the end
  refine codeAny_builtin PyProof.Rows.F.entry_set_update_loop ?_
  rw [Around.under_plainId PyProof.Rows.F.plain_set_update_loop _]
  show wpAny _ A.in1 (pyNext (.ref I) >>= _) _ _ _
  refine wpAny_bind (W.done _ _ _ hst4 fun h5 tk5 hk5 => ?_)
  show wpAny _ A.in1 (ret Value.none) _ _ _
  refine wpAny_pure (h h5 tk5 o4 (hk5 S o4 hSw ho4) hP4 fun b o hb hw e => ?_)
  refine hk5 b o hw ?_
  dsimp only
  rw [hs4.2 b hb]
  refine hk3 b o hw ?_
  dsimp only
  rw [hs2.2 b hb]
  exact hk1 b o hw e

set_option maxHeartbeats 3200000 in
theorem call_set_pair {prog : Program} {w : World} {A : Around} {E : Value → Shared → Prop} {s : Shared} {D : Addr} {x y : Value} {Q : Value → Shared → Prop}
    (hh : A.handled = none) (hl : s.heap.IsTuple D #[x, y])
    {R : Heap → Prop} (hR : ∀ h h' : Heap, R h → (∀ b o, b < s.heap.objs.size → h.get? b = some o → h'.get? b = some o) → R h')
    (hRs : R s.heap) {P0 P1 P2 : Obj → Prop} (hP0 : ∀ led, P0 (freshSet led))
    (a1 : ∀ A', A'.handled = none → A'.units ≤ A.units + 8 → Adds prog w A' s E s.heap.objs.size x R P0 P1) (a2 : ∀ A', A'.handled = none → A'.units ≤ A.units + 8 → Adds prog w A' s E s.heap.objs.size y R P1 P2)
    (h : ∀ (h' : Heap) (tk : Nat) o', h'.get? s.heap.objs.size = some o' → P2 o' → (∀ b o, b < s.heap.objs.size → s.heap.get? b = some o → h'.get? b = some o) → Q (.ref s.heap.objs.size) { s with heap := h', toks := tk }) :
    wpAny (model prog w) A (call (.type "set") [.ref D]) Q E s := by
  obtain ⟨c, tl, hmro⟩ := F.called_set.mro
  have hmade := F.called_set.made
  have hsub := F.called_set.sub
  refine wpAny_call (codeAny_of_tree ?_)
  show wpAny _ _ (callAny (.type "set") _) _ _ _
  refine wpAny_pure ⟨Code.quiet_builtin _ (by decide +kernel), codeAny_builtin F.entry_type_call ?_⟩
  rw [Around.under_plain (weight_type_call_type "set" [.ref D] []) rfl]
  have h1 := F.called_set.notType
  have h2 := F.called_set.canCreate
  have hct := F.typeCall_set_1 (.ref D)
  repeat (any_goals (first | assumption | wp_step))
  refine codeAny_mono (code_set_new_1 (.ref D) (E := E) (Q₁ := fun obj s₁ => ∃ led : Bool, obj = .ref s.heap.objs.size ∧ s₁ = { s with heap := s.heap.push (freshSet led) }) fun led => ⟨led, rfl, rfl⟩) fun r s₁ hr => ?_
  cases r with
  | error e => exact hr
  | ok fl =>
    cases fl with
    | ret obj =>
      obtain ⟨led, rfl, rfl⟩ := hr
      have hS : (s.heap.push (freshSet led)).get? s.heap.objs.size = some (freshSet led) := Heap.get?_push_size _ rfl
      have hT : Shared.TypeIs { s with heap := s.heap.push (freshSet led) } (.ref s.heap.objs.size) "set" := ⟨_, hS, rfl⟩
      have hli := F.called_set.init.lookup
      have hbi := F.called_set.init.bind (.ref s.heap.objs.size)
      repeat (any_goals (first | assumption | wp_step))
      refine codeAny_mono (codeAny_call_builtin (R := wants (fun r s₂ => r = .none ∧ ∃ h' tk o', s₂ = { s with heap := h', toks := tk } ∧ h'.get? s.heap.objs.size = some o' ∧ P2 o' ∧
          (∀ b o, b < s.heap.objs.size → s.heap.get? b = some o → h'.get? b = some o)) E) F.called_set.init.plain F.entry_set_init (PySem.check_set_init_1 hT ?_)) fun r₂ s₂ hr₂ => ?_
      · obtain ⟨ol, hol, hcl, nl, hdl⟩ := hl
        obtain ⟨ocls, odict, odata, oslots⟩ := ol
        simp only at hcl hdl
        subst hcl; subst hdl
        have hol' : (s.heap.push (freshSet led)).get? D = some { cls := .type "tuple", dict := odict, data := .seq #[x, y] nl, slots := oslots } := Heap.get?_push_of_some _ hol
        have hsls := F.sub_tuple_set
        have hslf := F.sub_tuple_frozenset
        have hne : (Value.type "tuple" == Value.type "dict") = false := by decide
        have hl1 : (s.heap.push (freshSet led)).IsTuple D #[x, y] := ⟨_, hol', rfl, nl, rfl⟩
        unfold Builtin.«set.__init__» noKeywords Builtin.Frozenset.updateFrom
        generalize hPI : pyIter = PI
        wp_walk
        subst hPI
        refine wpAny_pyIter_tuple hl1 ?_
        refine wpAny_bind (wpAny_runValue ?_)
        have hlS : D < s.heap.objs.size := Heap.lt_size hol
        have hsz : (s.heap.push (freshSet led)).objs.size = s.heap.objs.size + 1 := Heap.size_push ..
        have hneI : D ≠ (s.heap.push (freshSet led)).objs.size := by
          rw [hsz]; exact Nat.ne_of_lt (Nat.lt_succ_of_lt hlS)
        have hSf : s.heap.objs.size ∉ [(s.heap.push (freshSet led)).objs.size, D] := by
          rw [hsz]; simp only [List.mem_cons, List.not_mem_nil, or_false, not_or]
          exact ⟨Nat.ne_of_lt (Nat.lt_succ_self _), Nat.ne_of_gt hlS⟩
        refine codeAny_set_update_two (Walks.tuple (by simp [hh]) _ D hneI #[x, y]) s.heap.objs.size hSf (x := x) (y := y) (by intro v hv; simpa using hv.symm) (by intro v hv; simpa using hv.symm)
          (R := R) (fun ha hb hr hk => hR _ _ hr fun b o hlt e => hk b o (Nat.ne_of_lt hlt) (by rw [List.mem_singleton, hsz]; exact Nat.ne_of_lt (Nat.lt_succ_of_lt hlt)) e)
          (s₀ := s) ⟨_, _, rfl⟩ (a1 _ (by simp [hh]) (by simp)) (a2 _ (by simp [hh]) (by simp)) (o := freshSet led)
          ⟨⟨_, Heap.get?_push_size _ rfl, rfl, rfl⟩, (hl1.push _)⟩ (Heap.get?_push_of_some _ hS) (hP0 led)
          (hR _ _ hRs fun b o hlt e => Heap.get?_push_of_some _ (Heap.get?_push_of_some _ e)) ?_
        intro h' tk o' ho' hP2 hk'
        refine wpAny_pure ?_
        show wpAny _ _ (ret Value.none) _ _ _
        refine wpAny_pure ⟨rfl, h', tk, o', rfl, ho', hP2, fun b o hb e => ?_⟩
        exact hk' b o (Nat.ne_of_lt hb) (by rw [List.mem_singleton, hsz]; exact Nat.ne_of_lt (Nat.lt_succ_of_lt hb)) (Heap.get?_push_of_some _ (Heap.get?_push_of_some _ e))
      · cases r₂ with
        | error e => exact hr₂
        | ok fl₂ =>
          cases fl₂ with
          | ret r =>
            obtain ⟨rfl, h', tk, o', rfl, ho', hP2, hk'⟩ := hr₂
            repeat (any_goals (first | assumption | wp_step))
            exact h _ _ o' ho' hP2 hk'
          | _ => exact hr₂.elim
    | _ => exact hr.elim
end Mine
end
-- S3
theorem Mine.off_S3 : True := by
  w_top off
  trivial
section
open PySem PySem.W PySem.Spec PySem.Calls PyProof.Rows PyProof.V
set_option maxRecDepth 100000
namespace Mine
def SetN (n : Nat) (o : Obj) : Prop := o.ExactSet ∧ ∃ es ep t, o.data = .set es ep t ∧ t.fits es.size = true ∧ es.size = n
theorem SetObjOf.setN {prog : Program} {w : World} {K : Type} [DecidableEq K] [BEq K] [LawfulBEq K] {knd : KeyKind prog w K} {o : Obj} {S : K → Bool} {n : Nat} (h : o.SetObjOf knd S n) : SetN n o := by
  obtain ⟨hx, es, ep, t, hd, _, _, hn, hf⟩ := h
  exact ⟨hx, es, ep, t, hd, hf, hn⟩
theorem adds_str {prog : Program} {w : World} {A : Around} {E : Value → Shared → Prop} {Sa : Addr} {x : Str} {t : Tok} {R : Heap → Prop} (S : Str → Bool) (n : Nat) (hn : n + 1 < scanBound) :
    AddsAll prog w A E Sa (.str x t) R (fun o => o.SetObjOf (PySem.strKind prog w) S n) (fun o => o.SetObjOf (PySem.strKind prog w) (fun k => S k || decide (k = x)) (if S x then n else n + 1)) := by
  intro s o Q ho hP _ h
  unfold setAdd
  refine wpAny_holding (wpAny_bind ((PySem.strKind prog w).pyHash (k := x) (strKind_is _ _ _ _) ?_))
  refine wpAny_setAddHashed_of (knd := PySem.strKind prog w) (s := { s with toks := s.toks + 1 }) (strKind_is _ _ _ _) rfl (hP.setOf ho (by omega)) hn fun h' hs hS => ?_
  obtain ⟨o', ho', hso⟩ := hS.objOf
  exact h _ h' _ o' hs ho' hso

section
variable {prog : Program} {w : World} {A : Around} {E : Value → Shared → Prop} {s : Shared} {h₀ : Heap} {L : Addr} {m : Str → Option Value} {news : List (Addr × Obj)}
/-- the set's object, new, stands on the ledger -/
theorem set_ledger {h' : Heap} {o' : Obj} (F : Fr h₀ L s.heap m) (N : News h₀ L s.heap news) (ho : h'.get? s.heap.objs.size = some o') (hk : ∀ b o, b < s.heap.objs.size → s.heap.get? b = some o → h'.get? b = some o) :
    Fr h₀ L h' m ∧ News h₀ L h' ((s.heap.objs.size, o') :: news) ∧ ∀ p ∈ news, p.1 < s.heap.objs.size := by
  obtain ⟨oL, _, _, hL, _⟩ := F.ns
  have hLlt : L < s.heap.objs.size := Heap.lt_size hL
  refine ⟨⟨F.ns.at' fun o' e => hk L o' hLlt e, fun b o' e => hk b o' (Heap.lt_size (F.keep b o' e)) (F.keep b o' e), F.above⟩, (fun p hp => ?_), fun p hp => Heap.lt_size (N p hp).1⟩
  rcases List.mem_cons.mp hp with rfl | hp
  · refine ⟨ho, Nat.ne_of_gt hLlt, ?_⟩
    cases hq : h₀.get? s.heap.objs.size with
    | none => rfl
    | some o' => exact absurd (Heap.lt_size (F.keep _ _ hq)) (Nat.lt_irrefl _)
  · exact ⟨hk _ _ (Heap.lt_size (N p hp).1) (N p hp).1, (N p hp).2.1, (N p hp).2.2⟩
theorem set_strs_K {D : Addr} {x y : Str} {t u : Tok} {Q : Value → Shared → Prop} (F : Fr h₀ L s.heap m) (N : News h₀ L s.heap news) (hh : A.handled = none)
    (hm : (D, ({ cls := .type "tuple", data := .seq #[.str x t, .str y u] } : Obj)) ∈ news)
    (h : ∀ S h' tk o, Fr h₀ L h' m → News h₀ L h' ((S, o) :: news) → (∀ p ∈ news, p.1 < S) → SetN (if x = y then 1 else 2) o → Q (.ref S) { s with heap := h', toks := tk }) :
    wpAny (model prog w) A (call (.type "set") [.ref D]) Q E s := by
  have hT : s.heap.IsTuple D #[.str x t, .str y u] := ⟨_, (N _ hm).1, rfl, 0, rfl⟩
  refine call_set_pair hh hT (R := fun _ => True) (fun _ _ _ _ => trivial) trivial (fun led => setObjOf_fresh (knd := PySem.strKind prog w) led)
    (fun A' _ _ => (adds_str _ 0 (by decide)).adds) (fun A' _ _ => (adds_str _ 1 (by decide)).adds) fun h' tk o' ho' hP hk => ?_
  obtain ⟨F', N', hlt⟩ := set_ledger F N ho' hk
  refine h _ h' tk o' F' N' hlt ?_
  have := SetObjOf.setN hP
  by_cases e : x = y
  · subst e; simpa using this
  · have e' : ¬ y = x := fun q => e q.symm
    simpa [e, e'] using this
theorem set_len_K {S : Addr} {o : Obj} {n : Nat} {Q : Value → Shared → Prop} (N : News h₀ L s.heap news) (hm : (S, o) ∈ news) (hs : SetN n o) (hn : (n : Int) < 2 ^ 63)
    (h : Q (.int n (s.toks + 1)) { s with toks := s.toks + 1 + 1 }) : wpAny (model prog w) A (call (.builtin "len") [.ref S]) Q E s := by
  obtain ⟨hx, es, ep, t, hd, hf, rfl⟩ := hs
  exact call_len_set (N _ hm).1 hx hd hf hn h
end
end Mine
end
-- S4
theorem Mine.off_S4 : True := by
  w_top off
  trivial
section
open PySem PySem.W PySem.Spec PySem.Calls PyProof.Rows PyProof.V
set_option maxRecDepth 100000
namespace Mine
/-- the table that holds one live place j₁ of eight -/
def oneT (j₁ : Nat) (led plain : Bool) : SetTable := { mask := 7, place := #[j₁], dummies := #[], finger := 0, led := led, moves := 0, plain := plain }
theorem oneT_slot_self (j₁ : Nat) (led plain : Bool) : (oneT j₁ led plain).slot j₁ = .live 0 := by
  simp [SetTable.slot, oneT, SetTable.below, SetTable.below.go]
theorem oneT_slot_other {j₁ j : Nat} (led plain : Bool) (h : j ≠ j₁) : (oneT j₁ led plain).slot j = .empty := by
  have hb : SetTable.below #[j₁] j = if j₁ < j then 1 else 0 := by
    simp only [SetTable.below, SetTable.below.go, List.size_toArray, List.length_cons, List.length_nil]
    by_cases q : j₁ < j <;> simp [q]
  have hd : SetTable.has #[] j = false := by simp [SetTable.has, SetTable.below, SetTable.below.go]
  unfold SetTable.slot
  simp only [oneT, hb, hd]
  by_cases q : j₁ < j
  · simp [q]
  · simp [q, Ne.symm h]
/-- a stand of the search with no run of its own -/
structure Stand (p : SetTable.Probe) : Prop where
  more : p.more = 0
  dummy : p.dummy = none
  i : p.i = p.j
  lt : p.j < 8
theorem runEnd7 (i : Nat) : SetTable.runEnd 7 i = i := by
  unfold SetTable.runEnd; rw [if_neg (by omega)]
theorem stand_start (t : SetTable) (ht : t.mask = 7) (h : Int) : Stand (t.probeStart h) := by
  refine ⟨?_, rfl, rfl, ?_⟩
  · simp only [SetTable.probeStart, ht, runEnd7]; omega
  · simp only [SetTable.probeStart, ht]; omega
theorem stand_next {t : SetTable} (ht : t.mask = 7) {p : SetTable.Probe} (S : Stand p) : Stand (t.advance p) ∧ (t.advance p).j = (p.j * 5 + 1 + p.perturb / 32) % 8 ∧ (t.advance p).perturb = p.perturb / 32 := by
  have e : t.advance p = { p with j := (p.i * 5 + 1 + p.perturb / 32) % (7 + 1), more := SetTable.runEnd 7 ((p.i * 5 + 1 + p.perturb / 32) % (7 + 1)) - (p.i * 5 + 1 + p.perturb / 32) % (7 + 1), i := (p.i * 5 + 1 + p.perturb / 32) % (7 + 1), perturb := p.perturb / 32 } := by
    unfold SetTable.advance
    rw [if_neg (by rw [S.more]; omega), ht]
    rfl
  rw [e, S.i]
  refine ⟨⟨?_, S.dummy, rfl, ?_⟩, rfl, rfl⟩
  · show SetTable.runEnd 7 _ - _ = 0
    rw [runEnd7]; omega
  · show (p.j * 5 + 1 + p.perturb / 32) % (7 + 1) < 8
    omega
theorem next_moves {t : SetTable} (ht : t.mask = 7) {p : SetTable.Probe} (S : Stand p) (h0 : p.perturb = 0) : (t.advance p).j ≠ p.j := by
  have := (stand_next ht S).2.1
  have := S.lt
  rw [h0] at *
  omega
/-- other hashes: the search ends at an empty place -/
theorem go_other {hashAt : Nat → Int} {h : Int} (hne : hashAt 0 ≠ h) (j₁ : Nat) (led plain : Bool) : ∀ (k fuel : Nat) (p : SetTable.Probe), Stand p → p.perturb < 32 ^ k → k + 2 ≤ fuel →
    ∃ j, j ≠ j₁ ∧ SetTable.probe.go (oneT j₁ led plain) hashAt h fuel p = some (.empty j none) := by
  have step : ∀ (fuel : Nat) (p : SetTable.Probe), Stand p → p.j ≠ j₁ → 1 ≤ fuel → ∃ j, j ≠ j₁ ∧ SetTable.probe.go (oneT j₁ led plain) hashAt h fuel p = some (.empty j none) := by
    intro fuel p S hj hf
    obtain ⟨f, rfl⟩ : ∃ f, fuel = f + 1 := ⟨fuel - 1, by omega⟩
    refine ⟨p.j, hj, ?_⟩
    unfold SetTable.probe.go
    rw [oneT_slot_other led plain hj]
    simp [S.dummy]
  intro k
  induction k with
  | zero =>
    intro fuel p S hp hf
    by_cases hj : p.j = j₁
    · obtain ⟨f, rfl⟩ : ∃ f, fuel = f + 1 := ⟨fuel - 1, by omega⟩
      unfold SetTable.probe.go
      rw [hj, oneT_slot_self]
      have hb : (hashAt 0 == h) = false := by simpa using hne
      simp only [hb]
      have hm := next_moves (t := oneT j₁ led plain) rfl S (by omega)
      exact step f _ (stand_next rfl S).1 (by rw [← hj]; exact hm) (by omega)
    · exact step fuel p S hj (by omega)
  | succ k ih =>
    intro fuel p S hp hf
    by_cases hj : p.j = j₁
    · obtain ⟨f, rfl⟩ : ∃ f, fuel = f + 1 := ⟨fuel - 1, by omega⟩
      unfold SetTable.probe.go
      rw [hj, oneT_slot_self]
      have hb : (hashAt 0 == h) = false := by simpa using hne
      simp only [hb]
      obtain ⟨S', _, e⟩ := stand_next (t := oneT j₁ led plain) rfl S
      refine ih f _ S' ?_ (by omega)
      rw [e]
      exact Nat.div_lt_of_lt_mul (by rw [Nat.pow_succ, Nat.mul_comm] at hp; exact hp)
    · exact step fuel p S hj (by omega)
/-- the same hash: an empty place, or the one live place -/
theorem go_same {hashAt : Nat → Int} {h : Int} (he : hashAt 0 = h) (j₁ : Nat) (led plain : Bool) (fuel : Nat) {p : SetTable.Probe} (S : Stand p) :
    SetTable.probe.go (oneT j₁ led plain) hashAt h (fuel + 1) p = if p.j = j₁ then some (.candidate j₁ 0 ((oneT j₁ led plain).advance p)) else some (.empty p.j none) := by
  unfold SetTable.probe.go
  by_cases hj : p.j = j₁
  · rw [if_pos hj, hj, oneT_slot_self]
    have hb : (hashAt 0 == h) = true := by simpa using he
    simp only [hb, if_true]
  · rw [if_neg hj, oneT_slot_other led plain hj]
    simp [S.dummy]
theorem bits_lt (h : Int) : SetTable.bits h < 32 ^ 13 := by
  unfold SetTable.bits
  have h1 : (h % (2 ^ 64 : Int)) < 2 ^ 64 := Int.emod_lt_of_pos _ (by decide)
  have h2 : 0 ≤ (h % (2 ^ 64 : Int)) := Int.emod_nonneg _ (by decide)
  have h3 : (32 : Nat) ^ 13 = 2 ^ 65 := by decide
  rw [h3]
  have h4 : (2 ^ 64 : Int) = 18446744073709551616 := by decide
  have h5 : (2 ^ 65 : Nat) = 36893488147419103232 := by decide
  rw [h4] at h1 h2
  rw [h4, h5]
  omega
end Mine
end
-- S5
theorem Mine.off_S5 : True := by
  w_top off
  trivial
section
open PySem PySem.W PySem.Spec PySem.Calls PyProof.Rows PyProof.V
set_option maxRecDepth 100000
namespace Mine
section
variable {prog : Program} {w : World} {A : Around} {E : Value → Shared → Prop} {s : Shared}
abbrev TK (prog : Program) (w : World) (h : Heap) (ks : List Str) (a : Addr) : Prop := IsTupleKey (PySem.strKind prog w) h ks a
/-- whether a tuple of strs is hashed by value: we do not care -/
theorem wpAny_hashByValue_tup {ks : List Str} {a : Addr} {Q : Bool → Shared → Prop} (hk : TK prog w s.heap ks a) (h : ∀ b, Q b s) : wpAny (model prog w) A (hashByValue 8 (.ref a)) Q E s := by
  have hT := hk.typeIs
  obtain ⟨o, items, n, ho, _, hd, hi⟩ := hk
  unfold hashByValue
  refine wpAny_bind (wpAny_specialOf hT F.slot_tuple_hash.lookup ?_)
  dsimp only
  refine wpAny_bind (wpAny_seqItems ho hd ?_)
  dsimp only [Option.getD_some]
  refine wpAny_bind ?_
  rw [← Array.forIn_toList]
  refine wpAny_forIn_list _ (fun rest r s' => (r.1 = none) ∧ s' = s ∧ ∀ v ∈ rest, carriedByValue v = true) _ ?_ ?_ _ _ ⟨rfl, rfl, hi.byValue⟩
  · rintro v rest r s' ⟨hr, rfl, hall⟩
    have hv := hall v List.mem_cons_self
    have hb : ∃ b, hashByValue 7 v = pure b := by
      cases v <;> first | exact ⟨_, rfl⟩ | (simp [carriedByValue] at hv)
    obtain ⟨b, hb⟩ := hb
    rw [hb]
    refine wpAny_bind (wpAny_pure ?_)
    cases b with
    | true => exact wpAny_pure ⟨rfl, rfl, fun u hu => hall u (List.mem_cons_of_mem _ hu)⟩
    | false => first | exact wpAny_pure (wpAny_pure (h false)) | exact wpAny_pure (h false) | exact wpAny_bind (wpAny_pure (wpAny_pure (h false)))
  · rintro ⟨r1, r2⟩ s' ⟨hr, rfl, _⟩
    simp only at hr
    subst hr
    exact wpAny_pure (h true)
theorem wpAny_ofAClass_tup {ks : List Str} {a : Addr} {Q : Bool → Shared → Prop} (hk : TK prog w s.heap ks a) (h : Q false s) : wpAny (model prog w) A (ofAClassStatement 8 (.ref a)) Q E s := by
  have hT := hk.typeIs
  obtain ⟨o, items, n, ho, _, hd, hi⟩ := hk
  unfold ofAClassStatement
  refine wpAny_bind (wpAny_typeOf hT ?_)
  dsimp only
  simp only [beq_self_eq_true, if_true]
  refine wpAny_bind (wpAny_pure ?_)
  simp only [Bool.not_true, Bool.false_eq_true, if_false]
  refine wpAny_bind (wpAny_seqItems ho hd ?_)
  refine wpAny_bind ?_
  rw [← Array.forIn_toList]
  refine wpAny_forIn_list _ (fun rest r s' => (r.1 = none) ∧ s' = s ∧ ∀ v ∈ rest, carriedByValue v = true) _ ?_ ?_ _ _ ⟨rfl, rfl, hi.byValue⟩
  · rintro v rest r s' ⟨hr, rfl, hall⟩
    have hv := hall v List.mem_cons_self
    have hb : ofAClassStatement 7 v = pure false := by
      cases v <;> first | rfl | (simp [carriedByValue] at hv)
    rw [hb]
    refine wpAny_bind (wpAny_pure ?_)
    simp only [Bool.false_eq_true, if_false]
    exact wpAny_pure ⟨rfl, rfl, fun u hu => hall u (List.mem_cons_of_mem _ hu)⟩
  · rintro ⟨r1, r2⟩ s' ⟨hr, rfl, _⟩
    simp only at hr
    subst hr
    exact wpAny_pure h

theorem fresh_probe (led : Bool) (hashAt : Nat → Int) (h : Int) : (SetTable.fresh 0 0 led).probe hashAt h ((SetTable.fresh 0 0 led).probeStart h) = some (.empty (SetTable.bits h % 8) none) := by
  unfold SetTable.probe
  show SetTable.probe.go _ _ _ (219 + 1) _ = _
  unfold SetTable.probe.go
  have e : (SetTable.fresh 0 0 led).slot ((SetTable.fresh 0 0 led).probeStart h).j = .empty := by
    simp [SetTable.slot, SetTable.fresh, SetTable.below, SetTable.below.go, SetTable.has]
  rw [e]
  rfl
theorem fresh_put (led : Bool) (j : Nat) : (SetTable.fresh 0 0 led).put j = (oneT j led true, 0) := by
  simp [SetTable.put, SetTable.fresh, SetTable.below, SetTable.below.go, SetTable.has, SetTable.insertAt, oneT]
theorem one_put (j₁ : Nat) (led plain : Bool) (j : Nat) : ∃ p, (oneT j₁ led plain).put j = ({ oneT j₁ led plain with place := SetTable.insertAt #[j₁] p j }, p) ∧ p ≤ 1 := by
  refine ⟨SetTable.below #[j₁] j, ?_, ?_⟩
  · simp [SetTable.put, oneT, SetTable.has, SetTable.below, SetTable.below.go]
  · simp only [SetTable.below, SetTable.below.go, List.size_toArray, List.length_cons, List.length_nil]
    by_cases q : j₁ < j <;> simp [q]
/-- the set that holds one tuple of strs -/
def OneTup (prog : Program) (w : World) (ks : List Str) (a : Addr) (o : Obj) : Prop :=
  o.ExactSet ∧ ∃ ep led plain, o.data = .set #[(tupleKeyHash (PySem.strKind prog w) ks, .ref a)] ep (oneT (SetTable.bits (tupleKeyHash (PySem.strKind prog w) ks) % 8) led plain)
theorem adds_tup1 {Sa : Addr} {ks : List Str} {a : Addr} (hu : A.units < cLine) {R : Heap → Prop} (hR : ∀ h, R h → TK prog w h ks a) :
    AddsAll prog w A E Sa (.ref a) R (fun o => ∃ led, o = freshSet led) (OneTup prog w ks a) := by
  rintro s o Q ho ⟨led, rfl⟩ hr h
  have hk := hR _ hr
  unfold setAdd
  refine wpAny_holding (wpAny_bind (wpAny_pyHash_tuple hu hk ?_))
  unfold setAddHashed setAddHashedIn
  have hk' : TK prog w ({ s with toks := s.toks + (ks.length + 1) } : Shared).heap ks a := hk
  refine wpAny_holding (wpAny_bind (wpAny_setState_of (s := { s with toks := s.toks + (ks.length + 1) }) ho rfl rfl ?_))
  dsimp only
  have hb : byScan (.ref a) #[] = false := rfl
  rw [hb]
  simp only [Bool.false_eq_true, if_false]
  refine wpAny_bind ?_
  unfold setSearch setSearchFrom
  refine wpAny_bind (wpAny_setState_of (s := { s with toks := s.toks + (ks.length + 1) }) ho rfl rfl ?_)
  dsimp only
  have hg : (SetTable.fresh 0 0 led).gaveWay = false := by simp [SetTable.gaveWay, SetTable.fresh]
  rw [hg]
  simp only [Bool.false_eq_true, if_false, Option.getD_none]
  rw [fresh_probe]
  dsimp only
  refine wpAny_pure ?_
  dsimp only
  refine wpAny_bind (wpAny_setState_of (s := { s with toks := s.toks + (ks.length + 1) }) ho rfl rfl ?_)
  dsimp only
  rw [fresh_put]
  dsimp only
  have hp : (oneT (SetTable.bits (tupleKeyHash (PySem.strKind prog w) ks) % 8) led true).plain = true := rfl
  rw [hp]
  simp only [if_true]
  refine wpAny_bind (wpAny_hashByValue_tup hk' fun b => ?_)
  have fin : ∀ plain, wpAny (model prog w) A (do
        storeSet Sa (SetTable.insertAt #[] 0 (tupleKeyHash (PySem.strKind prog w) ks, Value.ref a)) (oneT (SetTable.bits (tupleKeyHash (PySem.strKind prog w) ks) % 8) led plain)
        if (!false && (oneT (SetTable.bits (tupleKeyHash (PySem.strKind prog w) ks) % 8) led plain).tooFull) = true then do
            setRelay Sa (SetTable.grown (0 + 1))
            pure true
          else pure true) Q E { s with toks := s.toks + (ks.length + 1) } := by
    intro plain
    refine wpAny_bind (wpAny_storeSet_of (s := { s with toks := s.toks + (ks.length + 1) }) ho rfl ?_ (by simp [SetTable.insertAt]; rw [sizeLine_eq]; omega))
    have hf : (oneT (SetTable.bits (tupleKeyHash (PySem.strKind prog w) ks) % 8) led plain).tooFull = false := by
      simp [SetTable.tooFull, SetTable.fill, oneT]
    rw [hf]
    simp only [Bool.and_false, Bool.false_eq_true, if_false]
    refine wpAny_pure ?_
    have hg := Heap.get?_update_self (Obj.putSet (SetTable.insertAt #[] 0 (tupleKeyHash (PySem.strKind prog w) ks, Value.ref a)) (oneT (SetTable.bits (tupleKeyHash (PySem.strKind prog w) ks) % 8) led plain)) ho rfl
    refine h true _ _ _ (Heap.SameBut.update ..) hg ⟨⟨rfl, rfl, rfl⟩, 1, led, plain, ?_⟩
    simp [Obj.putSet, SetTable.insertAt]
  cases b
  · exact fin false
  · exact fin true

theorem oneT_fits (j₁ : Nat) (led plain : Bool) : (oneT j₁ led plain).fits 1 = true := by
  simp [SetTable.fits, SetTable.fill, oneT]

theorem wpAny_couldBeSeen {ks ls : List Str} {a b : Addr} (ha : TK prog w s.heap ks a) (hb : TK prog w s.heap ls b) {Q : Bool → Shared → Prop} (h : Q false s) :
    wpAny (model prog w) A (searchCouldBeSeen (.ref b) [.ref a]) Q E s := by
  unfold searchCouldBeSeen
  simp only [List.forIn_cons, List.forIn_nil]
  by_cases e : b = a
  · subst e
    simp only [beq_self_eq_true, Bool.true_or, if_true]
    exact wpAny_bind (wpAny_bind (wpAny_pure (wpAny_pure (wpAny_pure h))))
  · have e' : (b == a) = false := by simpa using e
    simp only [e', Bool.false_or, carriedByValue, Bool.false_and, Bool.false_eq_true, if_false]
    refine wpAny_bind (wpAny_bind (wpAny_bind (wpAny_eqIsQuiet_tuple hb ?_)))
    simp only [Bool.not_true, Bool.false_eq_true, if_false]
    refine wpAny_bind (wpAny_eqIsQuiet_tuple ha ?_)
    simp only [Bool.not_true, Bool.false_eq_true, if_false]
    refine wpAny_bind (wpAny_ofAClass_tup hb ?_)
    simp only [Bool.false_eq_true, if_false]
    refine wpAny_bind (wpAny_ofAClass_tup ha ?_)
    simp only [Bool.false_eq_true, if_false]
    exact wpAny_pure (wpAny_pure (wpAny_pure h))
/-- the search in the set that holds one tuple -/
theorem search_ne {Sa : Addr} {ks ls : List Str} {a b : Addr} (hu : A.units < cLine) {o : Obj} {ep j₁ : Nat} {led plain : Bool} (ho : s.heap.get? Sa = some o)
    (hd : o.data = .set #[(tupleKeyHash (PySem.strKind prog w) ks, .ref a)] ep (oneT j₁ led plain))
    (ha : TK prog w s.heap ks a) (hb : TK prog w s.heap ls b) {Q : SetFound → Shared → Prop} (hne : ks ≠ ls) (h2 : ∀ j, Q (.free j false) s) :
    ∀ (k fuel : Nat) (st : Option SetTable.Probe) (p : SetTable.Probe), p = st.getD ((oneT j₁ led plain).probeStart (tupleKeyHash (PySem.strKind prog w) ls)) → k + 2 ≤ fuel → Stand p → p.perturb < 32 ^ k → k ≤ 13 →
    wpAny (model prog w) A (setSearchFrom Sa (.ref b) (tupleKeyHash (PySem.strKind prog w) ls) true fuel st) Q E s := by
  have hgw : (oneT j₁ led plain).gaveWay = false := by simp [SetTable.gaveWay, oneT]
  have same0 : ∀ hashAt : Nat → Int, hashAt 0 = tupleKeyHash (PySem.strKind prog w) ks → tupleKeyHash (PySem.strKind prog w) ks = tupleKeyHash (PySem.strKind prog w) ls → ∀ p, Stand p →
      (oneT j₁ led plain).probe hashAt (tupleKeyHash (PySem.strKind prog w) ls) p = if p.j = j₁ then some (.candidate j₁ 0 ((oneT j₁ led plain).advance p)) else some (.empty p.j none) :=
    fun hashAt h0 hh p S => go_same (h0.trans hh) j₁ led plain 219 S
  have other0 : ∀ hashAt : Nat → Int, hashAt 0 = tupleKeyHash (PySem.strKind prog w) ks → tupleKeyHash (PySem.strKind prog w) ks ≠ tupleKeyHash (PySem.strKind prog w) ls → ∀ k p, Stand p → p.perturb < 32 ^ k → k ≤ 13 →
      (oneT j₁ led plain).probe hashAt (tupleKeyHash (PySem.strKind prog w) ls) p = some (.empty (match (oneT j₁ led plain).probe hashAt (tupleKeyHash (PySem.strKind prog w) ls) p with | some (.empty j _) => j | _ => 0) none) :=
    fun hashAt h0 hh k p S hk h13 => by
      obtain ⟨j, _, e⟩ := go_other (hashAt := hashAt) (h := tupleKeyHash (PySem.strKind prog w) ls) (by rw [h0]; exact hh) j₁ led plain k 220 p S hk (by omega)
      have e' : (oneT j₁ led plain).probe hashAt (tupleKeyHash (PySem.strKind prog w) ls) p = some (.empty j none) := e
      rw [e']
  have turn : ∀ (k f : Nat) (st : Option SetTable.Probe) (p : SetTable.Probe), p = st.getD ((oneT j₁ led plain).probeStart (tupleKeyHash (PySem.strKind prog w) ls)) → Stand p → p.perturb < 32 ^ k → k ≤ 13 →
      (p.j = j₁ → wpAny (model prog w) A (setSearchFrom Sa (.ref b) (tupleKeyHash (PySem.strKind prog w) ls) true f (some ((oneT j₁ led plain).advance p))) Q E s) →
      wpAny (model prog w) A (setSearchFrom Sa (.ref b) (tupleKeyHash (PySem.strKind prog w) ls) true (f + 1) st) Q E s := by
    intro k f st p hp S hk hk13 hnext
    unfold setSearchFrom
    refine wpAny_bind (wpAny_setState_of ho hd (oneT_fits _ _ _) ?_)
    dsimp only
    rw [hgw]
    simp only [Bool.false_eq_true, if_false]
    rw [← hp]
    by_cases hh : tupleKeyHash (PySem.strKind prog w) ks = tupleKeyHash (PySem.strKind prog w) ls
    · rw [same0 _ rfl hh p S]
      by_cases hj : p.j = j₁
      · rw [if_pos hj]
        dsimp only
        have hfil : ((#[(tupleKeyHash (PySem.strKind prog w) ks, Value.ref a)] : Array (Int × Value)).filter (fun x => x.1 == tupleKeyHash (PySem.strKind prog w) ls)).toList.map (fun x => x.2) = [.ref a] := by simp [hh]
        rw [hfil]
        have hsm : (oneT j₁ led plain).sameMemory (oneT j₁ led plain).moves (oneT j₁ led plain).mask = some true := by simp [SetTable.sameMemory]
        have hsl := oneT_slot_self j₁ led plain
        cases hl : led <;> subst hl
        · refine wpAny_bind (wpAny_couldBeSeen ha hb ?_)
          simp only [Bool.false_eq_true, if_false]
          refine wpAny_bind (wpAny_holding (wpAny_eqBool_tuple hu ha hb ?_))
          rw [decide_eq_false hne]
          refine wpAny_bind (wpAny_setState_of ho hd (oneT_fits _ _ _) ?_)
          simp only [Bool.and_false, Bool.false_eq_true, if_false]
          rw [hsm]
          simp only [if_true]
          rw [hsl]
          refine wpAny_bind (m := isSame _ _) (wpAny_of_eq (a := true) (by simp [isSame]) ?_)
          exact wpAny_bind (wpAny_pure (hnext hj))
        · refine wpAny_bind (wpAny_holding (wpAny_eqBool_tuple hu ha hb ?_))
          rw [decide_eq_false hne]
          refine wpAny_bind (wpAny_setState_of ho hd (oneT_fits _ _ _) ?_)
          simp only [Bool.and_false, Bool.false_eq_true, if_false]
          rw [hsm]
          simp only [if_true]
          rw [hsl]
          refine wpAny_bind (m := isSame _ _) (wpAny_of_eq (a := true) (by simp [isSame]) ?_)
          exact wpAny_bind (wpAny_pure (hnext hj))
      · rw [if_neg hj]
        dsimp only
        exact wpAny_pure (h2 _)
    · rw [other0 _ rfl hh k p S hk hk13]
      dsimp only
      exact wpAny_pure (h2 _)
  intro k
  induction k with
  | zero =>
    intro fuel st p hp hf S hk hk13
    obtain ⟨f, rfl⟩ : ∃ f, fuel = f + 1 + 1 := ⟨fuel - 2, by omega⟩
    refine turn 0 _ st p hp S hk hk13 fun hj => ?_
    have hm := next_moves (t := oneT j₁ led plain) rfl S (by omega)
    obtain ⟨S', _, e⟩ := stand_next (t := oneT j₁ led plain) rfl S
    exact turn 0 f _ ((oneT j₁ led plain).advance p) rfl S' (by rw [e]; omega) hk13 fun hj' => absurd (hj'.trans hj.symm) hm
  | succ k ih =>
    intro fuel st p hp hf S hk hk13
    obtain ⟨f, rfl⟩ : ∃ f, fuel = f + 1 := ⟨fuel - 1, by omega⟩
    refine turn (k + 1) _ st p hp S hk hk13 fun hj => ?_
    obtain ⟨S', _, e⟩ := stand_next (t := oneT j₁ led plain) rfl S
    refine ih f _ ((oneT j₁ led plain).advance p) rfl (by omega) S' ?_ (by omega)
    rw [e]
    exact Nat.div_lt_of_lt_mul (by rw [Nat.pow_succ, Nat.mul_comm] at hk; exact hk)
theorem search_eq {Sa : Addr} {ks : List Str} {a b : Addr} (hu : A.units < cLine) {o : Obj} {ep : Nat} {led plain : Bool} (ho : s.heap.get? Sa = some o)
    (hd : o.data = .set #[(tupleKeyHash (PySem.strKind prog w) ks, .ref a)] ep (oneT (SetTable.bits (tupleKeyHash (PySem.strKind prog w) ks) % 8) led plain))
    (ha : TK prog w s.heap ks a) (hb : TK prog w s.heap ks b) {Q : SetFound → Shared → Prop} (h1 : Q (.there none) s) (f : Nat) :
    wpAny (model prog w) A (setSearchFrom Sa (.ref b) (tupleKeyHash (PySem.strKind prog w) ks) true (f + 1) none) Q E s := by
  have hgw : (oneT (SetTable.bits (tupleKeyHash (PySem.strKind prog w) ks) % 8) led plain).gaveWay = false := by simp [SetTable.gaveWay, oneT]
  have same0 : ∀ hashAt : Nat → Int, hashAt 0 = tupleKeyHash (PySem.strKind prog w) ks → (oneT (SetTable.bits (tupleKeyHash (PySem.strKind prog w) ks) % 8) led plain).probe hashAt (tupleKeyHash (PySem.strKind prog w) ks) ((oneT (SetTable.bits (tupleKeyHash (PySem.strKind prog w) ks) % 8) led plain).probeStart (tupleKeyHash (PySem.strKind prog w) ks)) =
      some (.candidate (SetTable.bits (tupleKeyHash (PySem.strKind prog w) ks) % 8) 0 ((oneT (SetTable.bits (tupleKeyHash (PySem.strKind prog w) ks) % 8) led plain).advance ((oneT (SetTable.bits (tupleKeyHash (PySem.strKind prog w) ks) % 8) led plain).probeStart (tupleKeyHash (PySem.strKind prog w) ks)))) := by
    intro hashAt h0
    have := go_same h0 (SetTable.bits (tupleKeyHash (PySem.strKind prog w) ks) % 8) led plain 219 (stand_start (oneT (SetTable.bits (tupleKeyHash (PySem.strKind prog w) ks) % 8) led plain) rfl (tupleKeyHash (PySem.strKind prog w) ks))
    rw [if_pos (by rfl)] at this
    exact this
  unfold setSearchFrom
  refine wpAny_bind (wpAny_setState_of ho hd (oneT_fits _ _ _) ?_)
  dsimp only
  rw [hgw]
  simp only [Bool.false_eq_true, if_false, Option.getD_none]
  rw [same0 _ rfl]
  dsimp only
  have hfil : ((#[(tupleKeyHash (PySem.strKind prog w) ks, Value.ref a)] : Array (Int × Value)).filter (fun x => x.1 == tupleKeyHash (PySem.strKind prog w) ks)).toList.map (fun x => x.2) = [.ref a] := by simp
  rw [hfil]
  cases hl : led <;> subst hl
  · refine wpAny_bind (wpAny_couldBeSeen ha hb ?_)
    simp only [Bool.false_eq_true, if_false]
    refine wpAny_bind (wpAny_holding (wpAny_eqBool_tuple hu ha hb ?_))
    rw [decide_eq_true rfl]
    refine wpAny_bind (wpAny_setState_of ho hd (oneT_fits _ _ _) ?_)
    simp only [Bool.and_self, if_true]
    exact wpAny_pure h1
  · refine wpAny_bind (wpAny_holding (wpAny_eqBool_tuple hu ha hb ?_))
    rw [decide_eq_true rfl]
    refine wpAny_bind (wpAny_setState_of ho hd (oneT_fits _ _ _) ?_)
    simp only [Bool.and_self, if_true]
    exact wpAny_pure h1
theorem adds_tup2 {Sa : Addr} {ks ls : List Str} {a b : Addr} (hu : A.units < cLine) {R : Heap → Prop} (hR : ∀ h, R h → TK prog w h ks a ∧ TK prog w h ls b) :
    AddsAll prog w A E Sa (.ref b) R (OneTup prog w ks a) (SetN (if ks = ls then 1 else 2)) := by
  rintro s o Q ho ⟨hx, ep, led, plain, hd⟩ hr h
  obtain ⟨ha, hb⟩ := hR _ hr
  unfold setAdd
  refine wpAny_holding (wpAny_bind (wpAny_pyHash_tuple hu hb ?_))
  unfold setAddHashed setAddHashedIn
  have ha' : TK prog w ({ s with toks := s.toks + (ls.length + 1) } : Shared).heap ks a := ha
  have hb' : TK prog w ({ s with toks := s.toks + (ls.length + 1) } : Shared).heap ls b := hb
  refine wpAny_holding (wpAny_bind (wpAny_setState_of (s := { s with toks := s.toks + (ls.length + 1) }) ho hd (oneT_fits _ _ _) ?_))
  dsimp only
  have hbs : byScan (.ref b) #[(tupleKeyHash (PySem.strKind prog w) ks, .ref a)] = false := rfl
  rw [hbs]
  simp only [Bool.false_eq_true, if_false]
  refine wpAny_bind ?_
  unfold setSearch
  by_cases e : ks = ls
  · subst e
    refine search_eq (s := { s with toks := s.toks + (ks.length + 1) }) hu ho hd ha' hb' ?_ 99999
    dsimp only
    refine wpAny_pure ?_
    refine h _ s.heap _ o ⟨rfl, fun _ _ => rfl⟩ ho ⟨hx, _, ep, _, hd, oneT_fits _ _ _, ?_⟩
    simp
  · refine search_ne (s := { s with toks := s.toks + (ls.length + 1) }) hu ho hd ha' hb' e (fun j => ?_) 13 100000 none _ rfl (by omega) (stand_start _ rfl _) (bits_lt _) (by omega)
    dsimp only
    refine wpAny_bind (wpAny_setState_of (s := { s with toks := s.toks + (ls.length + 1) }) ho hd (oneT_fits _ _ _) ?_)
    dsimp only
    obtain ⟨p, hput, hp1⟩ := one_put (SetTable.bits (tupleKeyHash (PySem.strKind prog w) ks) % 8) led plain j
    rw [hput]
    dsimp only
    have fin : ∀ plain' : Bool, wpAny (model prog w) A (do
        storeSet Sa (SetTable.insertAt #[(tupleKeyHash (PySem.strKind prog w) ks, Value.ref a)] p (tupleKeyHash (PySem.strKind prog w) ls, Value.ref b)) { oneT (SetTable.bits (tupleKeyHash (PySem.strKind prog w) ks) % 8) led plain' with place := SetTable.insertAt #[SetTable.bits (tupleKeyHash (PySem.strKind prog w) ks) % 8] p j }
        if (!false && ({ oneT (SetTable.bits (tupleKeyHash (PySem.strKind prog w) ks) % 8) led plain' with place := SetTable.insertAt #[SetTable.bits (tupleKeyHash (PySem.strKind prog w) ks) % 8] p j } : SetTable).tooFull) = true then do
            setRelay Sa (SetTable.grown (1 + 1))
            pure true
          else pure true) Q E { s with toks := s.toks + (ls.length + 1) } := by
      intro plain'
      have sz : ∀ {α : Type} (x y : α), (SetTable.insertAt #[x] p y).size = 2 := fun x y => by
        have : p = 0 ∨ p = 1 := by omega
        rcases this with rfl | rfl <;> simp [SetTable.insertAt]
      refine wpAny_bind (wpAny_storeSet_of (s := { s with toks := s.toks + (ls.length + 1) }) ho hd ?_ (by rw [sz]; rw [sizeLine_eq]; omega))
      have hf : ({ oneT (SetTable.bits (tupleKeyHash (PySem.strKind prog w) ks) % 8) led plain' with place := SetTable.insertAt #[SetTable.bits (tupleKeyHash (PySem.strKind prog w) ks) % 8] p j } : SetTable).tooFull = false := by
        simp [SetTable.tooFull, SetTable.fill, oneT, sz]
      rw [hf]
      simp only [Bool.and_false, Bool.false_eq_true, if_false]
      refine wpAny_pure ?_
      obtain ⟨c, d, dt, sl⟩ := o
      simp only at hd
      subst hd
      have hg := Heap.get?_update_self (Obj.putSet (SetTable.insertAt #[(tupleKeyHash (PySem.strKind prog w) ks, Value.ref a)] p (tupleKeyHash (PySem.strKind prog w) ls, Value.ref b)) { oneT (SetTable.bits (tupleKeyHash (PySem.strKind prog w) ks) % 8) led plain' with place := SetTable.insertAt #[SetTable.bits (tupleKeyHash (PySem.strKind prog w) ks) % 8] p j }) ho rfl
      refine h true _ _ _ (Heap.SameBut.update ..) hg ⟨⟨hx.1, hx.2.1, hx.2.2⟩, _, _, _, rfl, ?_, ?_⟩
      · simp [SetTable.fits, SetTable.fill, oneT, sz]
      · rw [sz, if_neg e]
    have hpl : ∀ b : Bool, (oneT (SetTable.bits (tupleKeyHash (PySem.strKind prog w) ks) % 8) led b).plain = b := fun _ => rfl
    cases hpl' : plain <;> subst hpl'
    · simp only [oneT, Bool.false_eq_true, if_false]
      refine wpAny_bind (wpAny_pure ?_)
      simp only [if_true]
      exact fin false
    · simp only [oneT, if_true]
      refine wpAny_bind (wpAny_hashByValue_tup hb' fun b => ?_)
      cases b
      · simp only [Bool.false_eq_true, if_false]
        exact fin false
      · simp only [if_true]
        exact fin true
end
end Mine
end
-- S6
theorem Mine.off_S6 : True := by
  w_top off
  trivial
section
open PySem PySem.W PySem.Spec PySem.Calls PyProof.Rows PyProof.V
set_option maxRecDepth 100000
namespace Mine
theorem datAll_items {prog : Program} {w : World} {news : List (Addr × Obj)} : ∀ {vs : List Value} {ks : List Str}, DatAll news vs (ks.map Dat.str) → PySem.ItemsAre (PySem.strKind prog w) ks vs
  | vs, [], h => by cases h; exact .nil
  | vs, k :: ks, h => by
    cases h with
    | cons h r =>
      cases h with
      | str x t => exact .cons (strKind_is _ _ _ _) (datAll_items r)
section
variable {prog : Program} {w : World} {A : Around} {E : Value → Shared → Prop} {s : Shared} {h₀ : Heap} {L : Addr} {m : Str → Option Value} {news : List (Addr × Obj)}
theorem datTup_key {h : Heap} (N : News h₀ L h news) {a : Addr} {ks : List Str} (hd : DatIn news (.ref a) (.tuple (ks.map Dat.str))) : TK prog w h ks a := by
  cases hd with
  | tuple hm hr => exact ⟨_, _, _, (N _ hm).1, rfl, rfl, by simpa using datAll_items hr⟩
theorem TK.ext {h h' : Heap} {ks : List Str} {a : Addr} (x : TK prog w h ks a) (k : ∀ o, h.get? a = some o → h'.get? a = some o) : TK prog w h' ks a := by
  obtain ⟨o, items, n, ho, hc, hd, hi⟩ := x
  exact ⟨o, items, n, k o ho, hc, hd, hi⟩
theorem TK.lt {h : Heap} {ks : List Str} {a : Addr} (x : TK prog w h ks a) : a < h.objs.size := by
  obtain ⟨o, items, n, ho, hc, hd, hi⟩ := x
  exact Heap.lt_size ho
theorem set_tups_K {D a b : Addr} {ks ls : List Str} {Q : Value → Shared → Prop} (F : Fr h₀ L s.heap m) (N : News h₀ L s.heap news) (hh : A.handled = none) (hu : A.units + 10 < cLine)
    (hm : (D, ({ cls := .type "tuple", data := .seq #[.ref a, .ref b] } : Obj)) ∈ news) (ha : DatIn news (.ref a) (.tuple (ks.map Dat.str))) (hb : DatIn news (.ref b) (.tuple (ls.map Dat.str)))
    (h : ∀ S h' tk o, Fr h₀ L h' m → News h₀ L h' ((S, o) :: news) → (∀ p ∈ news, p.1 < S) → SetN (if ks = ls then 1 else 2) o → Q (.ref S) { s with heap := h', toks := tk }) :
    wpAny (model prog w) A (call (.type "set") [.ref D]) Q E s := by
  have hT : s.heap.IsTuple D #[.ref a, .ref b] := ⟨_, (N _ hm).1, rfl, 0, rfl⟩
  have ka : TK prog w s.heap ks a := datTup_key N ha
  have kb : TK prog w s.heap ls b := datTup_key N hb
  refine call_set_pair hh hT (R := fun h => TK prog w h ks a ∧ TK prog w h ls b) (fun h h' r k => ⟨r.1.ext fun o e => k a o ka.lt e, r.2.ext fun o e => k b o kb.lt e⟩) ⟨ka, kb⟩ (P0 := fun o => ∃ led, o = freshSet led) (fun led => ⟨led, rfl⟩)
    (fun A' _ hu' => (adds_tup1 (by omega) fun h r => r.1).adds) (fun A' _ hu' => (adds_tup2 (ks := ks) (ls := ls) (a := a) (by omega) fun h r => r).adds) fun h' tk o' ho' hP hk => ?_
  obtain ⟨F', N', hlt⟩ := set_ledger F N ho' hk
  exact h _ h' tk o' F' N' hlt hP
theorem list_hash : typeLookup (.type "list") "__hash__" = pure (some .none) := by rw [typeLookup_type, builtinLookup_eq_fast]; kernel_rfl
theorem hash_list_raises {l : Addr} {Q : Int → Shared → Prop} (hh : A.handled = none) (hu : A.units < cLine) (hT : s.TypeIs (.ref l) "list")
    (hE : ∀ h' tk e, Heap.NewExc s.heap h' e "TypeError" → E (.ref e) { s with heap := h', toks := tk }) : wpAny (model prog w) A (pyHash (.ref l)) Q E s := by
  unfold pyHash pyHashByItsType
  refine wpAny_bind (wpAny_cRoomFor_or (.inr hu) ?_)
  refine wpAny_bind (wpAny_specialOf hT list_hash ?_)
  rw [if_pos (by rfl)]
  refine wpAny_bind (wpAny_rule ?_)
  refine wpAny_bind (wpAny_typeNameOf' hT (hn := by decide) ?_)
  first
    | exact wpAny_raiseErrorMade plainExc_TypeError hh hE (by rw [PySem.ofString_length, sizeLine_eq]; decide +kernel)
    | exact wpAny_raiseErrorWords plainExc_TypeError hh hE
    | exact wpAny_bind (wpAny_raiseErrorMade plainExc_TypeError hh hE (by rw [PySem.ofString_length, sizeLine_eq]; decide +kernel))
theorem set_lists_raise {D a b : Addr} {oa : Obj} {Q : Value → Shared → Prop} (F : Fr h₀ L s.heap m) (N : News h₀ L s.heap news) (hh : A.handled = none) (hu : A.units + 10 < cLine)
    (hm : (D, ({ cls := .type "tuple", data := .seq #[.ref a, .ref b] } : Obj)) ∈ news) (ha : (a, oa) ∈ news) (hc : oa.cls = .type "list")
    (hE : ∀ h' tk e, Heap.NewExc s.heap h' e "TypeError" → E (.ref e) { s with heap := h', toks := tk }) :
    wpAny (model prog w) A (call (.type "set") [.ref D]) Q E s := by
  have hT : s.heap.IsTuple D #[.ref a, .ref b] := ⟨_, (N _ hm).1, rfl, 0, rfl⟩
  have hoa := (N _ ha).1
  refine call_set_pair hh hT (R := fun h => ∀ b o, b < s.heap.objs.size → s.heap.get? b = some o → h.get? b = some o) (fun h h' r k b o hb e => k b o hb (r b o hb e)) (fun _ _ _ e => e) (P0 := fun _ => True) (P1 := fun _ => False) (P2 := fun _ => False) (fun led => trivial)
    (fun A' hh' hu' => ?_) (fun A' _ hu' => fun _ _ _ _ _ hf => hf.elim) fun h' tk o' ho' hP hk => hP.elim
  intro hp tk₀ o Q' ho _ hr _
  unfold setAdd
  refine wpAny_holding (wpAny_bind (hash_list_raises hh' (by omega) ⟨oa, hr _ _ (Heap.lt_size hoa) hoa, hc⟩ fun h' tk e hx => ?_))
  refine hE h' tk e ⟨fun b o hb => hx.1 b o (hr b o (Heap.lt_size hb) hb), ?_, hx.3⟩
  cases he : s.heap.get? e with
  | none => rfl
  | some o =>
    have := hr e o (Heap.lt_size he) he
    have h2 := hx.2
    dsimp only at h2
    rw [this] at h2
    cases h2
end
end Mine
end
-- H0
theorem Mine.off_H0 : True := by
  w_top off
  trivial
section
open PySem PySem.W PySem.Spec PySem.Calls PyProof.Rows PyProof.V
set_option maxRecDepth 100000
namespace Mine
abbrev Claim (k : Nat) (prog : Program) (w : World) (K : Frag) (p : Program) (loose : List Str) (mean : ExcName → Option Value) (mg mb : Str → Option Value) (f : Addr) (news : List (Addr × Obj)) (vs : List Value) (R : Tok → Value) : Prop :=
  ∀ (dp un : Nat) (gd : Option (List Code)) (cn : Str) (cs : Scope) (a : Addr) (ccd : Value) (cl : List (Str × Addr)) (outer : List Env) (A₀ : Around) (base h₀ : Heap) (L : Addr) (m : Str → Option Value) (s : Shared) (Q E : Value → Shared → Prop),
    Below A₀ base outer h₀ → Fr h₀ L s.heap m → K.In h₀ → News h₀ L s.heap news → Top p loose mean mg mb h₀ → cs.kind = .function →
    dp + k < recursionLimit → un + 10 * k < cLine → CbRet h₀ L m news s Q R →
      wpAny (model prog w) (ktrTop dp un gd cn cs L a ccd cl outer) (call (.ref f) vs) Q E s
end Mine
end
-- L0
theorem Mine.off_L0 : True := by
  w_top off
  trivial
section
open PySem PySem.W PySem.Spec PySem.Calls PyProof.Rows PyProof.V
set_option maxRecDepth 100000
namespace Mine
section
variable {prog : Program} {w : World} {A : Around} {E : Value → Shared → Prop} {s : Shared} {env : Env} {h₀ : Heap} {x : Str} {body : List Stmt} {Q : Flow → Shared → Prop}
/-- a for over a range, by what holds of the frame's names and of the ledger -/
theorem range_loop {r : Addr} {a₀ b₀ c₀ : Int} {t₀ u₀ v₀ : Tok} {n : Nat} {m₀ : Str → Option Value} {news : List (Addr × Obj)} (J : Nat → (Str → Option Value) → List (Addr × Obj) → Prop)
    (hh : A.handled = none) (hr : IsRange s.heap r a₀ b₀ c₀ t₀ u₀ v₀) (hsmall : Builtin.Range.small a₀ b₀ c₀ = true) (hsz : Builtin.Range.rangeSize a₀ b₀ c₀ = (n : Int))
    (F : Fr h₀ env.locals s.heap m₀) (N : News h₀ env.locals s.heap news) (hj : J 0 m₀ news)
    (turn : ∀ i t m₁ nx h tk own, i < n → OwnOff own (nx.map (·.1)) → J i m₁ nx → Fr h₀ env.locals h (fun y => if y = x then some (.int (a₀ + i * c₀) t) else m₁ y) → News h₀ env.locals h (nx ++ own) →
      wpAny (model prog w) A (execs body env) (InvPostG h₀ env.locals (J (i + 1)) own { s with heap := h, toks := tk } Q) E { s with heap := h, toks := tk })
    (done : ∀ m₁ nx h tk, J n m₁ nx → Fr h₀ env.locals h m₁ → News h₀ env.locals h nx → Q .next { s with heap := h, toks := tk }) :
    wpAny (model prog w) A (pyIter (.ref r)) (fun it s₂ => LoopAtV prog w A h₀ env x body Q E it s₂) E s := by
  refine wpAny_pyIter_range hr hsmall ?_
  have W : Walks prog w A s.heap.objs.size [s.heap.objs.size] [s.heap.objs.size] n (fun i v => ∃ t, v = .int (a₀ + i * c₀) t)
      (fun i h => IsRangeIter h s.heap.objs.size (a₀ + (i : Nat) * c₀) ((n : Int) - (i : Nat)) c₀) := Walks.range hh _ a₀ c₀ n
  refine kdr_loop J W (fun _ h => h) (fun _ h => h) ?_ ?_ ?_ ?_ (by show IsRangeIter _ _ _ _ _; rw [hsz]; simpa using Heap.get?_push_size _ rfl) (F.push _) (fun p hp => ⟨Heap.get?_push_of_some _ (N p hp).1, (N p hp).2⟩) hj ?_ ?_
  · intro i h hi b hb
    rw [List.mem_singleton.mp hb]
    exact ⟨_, hi⟩
  · intro hm
    exact absurd F.ns.lt ((List.mem_singleton.mp hm) ▸ Nat.lt_irrefl _)
  · intro b hb
    rw [List.mem_singleton.mp hb]
    exact next_is_new F
  · intro p hp hI
    exact absurd (Heap.lt_size (N p hp).1) ((List.mem_singleton.mp hI) ▸ Nat.lt_irrefl _)
  · rintro i v m₁ nx h tk own hi ⟨t, rfl⟩ hoff hj' F₁ N₁
    exact turn i t m₁ nx h tk own hi hoff hj' F₁ N₁
  · exact done
/-- the frame's names that are known, the others as they stand -/
theorem fr_named {L : Addr} {h : Heap} {m : Str → Option Value} {v : Value} (ps : List (Str × Value)) (hp : ∀ p ∈ ps, m p.1 = some p.2) (F : Fr h₀ L h (fun y => if y = x then some v else m y)) :
    Fr h₀ L h (fun y => if y = x then some v else kstB m ps y) := by
  have e : (fun y => if y = x then some v else kstB m ps y) = fun y => if y = x then some v else m y := by
    funext y
    by_cases hy : y = x
    · simp [hy]
    · simp only [if_neg hy]
      exact kstB_eq hp fun _ => rfl
  rw [e]; exact F
theorem fr_named0 {L : Addr} {h : Heap} {m : Str → Option Value} (ps : List (Str × Value)) (hp : ∀ p ∈ ps, m p.1 = some p.2) (F : Fr h₀ L h m) : Fr h₀ L h (kstB m ps) := by
  have e : kstB m ps = m := by
    funext y
    exact kstB_eq hp fun _ => rfl
  rw [e]; exact F
end
end Mine
namespace Mine
theorem six {n : Nat} (h : n ≤ 6) : n = 0 ∨ n = 1 ∨ n = 2 ∨ n = 3 ∨ n = 4 ∨ n = 5 ∨ n = 6 := by omega
theorem rsize_up {n : Nat} (h : n ≤ 6) : Builtin.Range.rangeSize 1 ((n : Int) + 1) 1 = (n : Int) := by
  rcases six h with rfl | rfl | rfl | rfl | rfl | rfl | rfl <;> decide
theorem rsmall_up {n : Nat} (h : n ≤ 6) : Builtin.Range.small 1 ((n : Int) + 1) 1 = true := by
  rcases six h with rfl | rfl | rfl | rfl | rfl | rfl | rfl <;> decide
end Mine
namespace Mine
theorem allLt_mem {d : Nat} : ∀ {l : List (Addr × Obj)}, AllLt d l → ∀ p ∈ l, p.1 < d
  | [], _, p, hp => nomatch hp
  | q :: r, h, p, hp => by
    rcases List.mem_cons.mp hp with rfl | hp
    · exact h.1
    · exact allLt_mem h.2 p hp
theorem allLt_ne {d : Nat} {l : List (Addr × Obj)} (h : AllLt d l) : ∀ p ∈ l, p.1 ≠ d := fun p hp => Nat.ne_of_lt (allLt_mem h p hp)
theorem drop_mid {h₀ h : Heap} {L : Addr} {t a b c d : Addr × Obj} {l : List (Addr × Obj)} (N : News h₀ L h (t :: a :: b :: c :: d :: l)) : News h₀ L h (a :: l) := fun p hp => by
  rcases List.mem_cons.mp hp with rfl | hp
  · exact N _ (.tail _ (.head _))
  · exact N _ (.tail _ (.tail _ (.tail _ (.tail _ (.tail _ hp)))))
end Mine
namespace Mine
theorem allNe_succ {L : Addr} {l : List (Addr × Obj)} (h : ∀ p ∈ l, p.1 < L) : ∀ p ∈ l, p.1 ≠ L + 1 := fun p hp => Nat.ne_of_lt (Nat.lt_succ_of_lt (h p hp))
theorem allNe_lt {d : Nat} {l : List (Addr × Obj)} (h : AllLt d l) : ∀ p ∈ l, p.1 ≠ d := allLt_ne h
end Mine
namespace Mine
theorem range_loopN {prog : Program} {w : World} {A : Around} {E : Value → Shared → Prop} {s : Shared} {env : Env} {h₀ : Heap} {x : Str} {body : List Stmt} {Q : Flow → Shared → Prop} {r : Addr} {a₀ b₀ c₀ : Int} {t₀ u₀ v₀ : Tok} {n : Nat} {m₀ : Str → Option Value} {news : List (Addr × Obj)} (J : List (Addr × Obj) → Nat → (Str → Option Value) → List (Addr × Obj) → Prop)
    (hh : A.handled = none) (hr : IsRange s.heap r a₀ b₀ c₀ t₀ u₀ v₀) (hsmall : Builtin.Range.small a₀ b₀ c₀ = true) (hsz : Builtin.Range.rangeSize a₀ b₀ c₀ = (n : Int))
    (F : Fr h₀ env.locals s.heap m₀) (N : News h₀ env.locals s.heap news) (hj : J news 0 m₀ news)
    (turn : ∀ i t m₁ nx h tk own, i < n → OwnOff own (nx.map (·.1)) → J news i m₁ nx → Fr h₀ env.locals h (fun y => if y = x then some (.int (a₀ + i * c₀) t) else m₁ y) → News h₀ env.locals h (nx ++ own) →
      wpAny (model prog w) A (execs body env) (InvPostG h₀ env.locals (J news (i + 1)) own { s with heap := h, toks := tk } Q) E { s with heap := h, toks := tk })
    (done : ∀ m₁ nx h tk, J news n m₁ nx → Fr h₀ env.locals h m₁ → News h₀ env.locals h nx → Q .next { s with heap := h, toks := tk }) :
    wpAny (model prog w) A (pyIter (.ref r)) (fun it s₂ => LoopAtV prog w A h₀ env x body Q E it s₂) E s :=
  range_loop (J news) hh hr hsmall hsz F N hj turn done
end Mine
end
-- H1
theorem Mine.off_H1 : True := by
  w_top off
  trivial
section
open PySem PySem.W PySem.Spec PySem.Calls PyProof.Rows PyProof.V
set_option maxRecDepth 100000
namespace Mine
/-- a text's signs, one by one -/
def signs (x : Str) : List Dat := (List.range x.length).map fun i : Nat => Dat.str (Txt.item x (i : Int))
theorem signs_length (x : Str) : (signs x).length = x.length := by simp [signs]
theorem signs_get (x : Str) {k : Int} (h0 : 0 ≤ k) (h1 : k < x.length) : (signs x).getD k.toNat .none = Dat.str (Txt.item x k) := by
  have h2 : k.toNat < x.length := by omega
  have h3 : ((k.toNat : Nat) : Int) = k := by omega
  simp [signs, List.getD, h2, h3]
/-- what a text or a list holds -/
inductive SeqIn (news : List (Addr × Obj)) : Value → List Dat → Prop
  | str (x : Str) (t : Tok) : SeqIn news (.str x t) (signs x)
  | list {a : Addr} {vs : List Value} {n : Nat} {ds : List Dat} : (a, listOf vs.toArray n) ∈ news → DatAll news vs ds → SeqIn news (.ref a) ds
theorem SeqIn.mono {news news' : List (Addr × Obj)} (hs : ∀ p ∈ news, p ∈ news') {v : Value} {ds : List Dat} (h : SeqIn news v ds) : SeqIn news' v ds := by
  cases h with
  | str x t => exact .str x t
  | list hm hd => exact .list (hs _ hm) (DatAll.mono hs hd)
section
variable {prog : Program} {w : World} {A : Around} {E : Value → Shared → Prop} {s : Shared} {h₀ : Heap} {L : Addr} {m : Str → Option Value} {news : List (Addr × Obj)} {v : Value} {ds : List Dat}
theorem seq_len {Q : Value → Shared → Prop} (N : News h₀ L s.heap news) (hS : SeqIn news v ds) (hl : ds.length ≤ 6) (h : Q (.int ds.length (s.toks + 1)) { s with toks := s.toks + 1 + 1 }) :
    wpAny (model prog w) A (call (.builtin "len") [v]) Q E s := by
  cases hS with
  | str x t =>
    rw [signs_length] at hl h
    exact PySem.P.len_str (by omega) h
  | list hm hd =>
    have e := hd.length
    rename_i a vs n
    refine len_list ⟨_, (N _ hm).1, rfl, n, rfl⟩ (by simp; omega) ?_
    simpa [e] using h
theorem seq_item {value slice : PySem.Expr} {k : Int} {u : Tok} {Q : Value → Shared → Prop} (N : News h₀ L s.heap news) (hS : SeqIn news v ds) (hl : ds.length ≤ 6) (h0 : 0 ≤ k) (h1 : k < ds.length)
    (h : ∀ v' tk', DatIn news v' (ds.getD k.toNat .none) → Q v' { s with toks := tk' })
    (hs : subscripted slice false v (.int k u) = operate [v, .int k u] (getItem v (.int k u)))
    (ht : ∀ r, letTemporaryGo value v r = pure ()) :
    wpAny (model prog w) A (subscriptTail value slice v (.int k u)) Q E s := by
  cases hS with
  | str x t =>
    rw [signs_length] at hl h1
    refine PyProof.Rows.item_str (by unfold fitsSsize; simp; omega) (by omega) h1 (fun _ => h _ _ ?_) hs ht
    rw [signs_get x h0 h1]
    exact .str _ _
  | list hm hd =>
    have e := hd.length
    rename_i a vs n
    have hk : k.toNat < ds.length := by omega
    obtain ⟨v', hv, hD⟩ := hd.get hk
    refine PyProof.Rows.item_list (x := v') ⟨_, (N _ hm).1, rfl, n, rfl⟩ h0 (by omega) (by simpa using hv) ?_ hs ht
    have := h v' s.toks (by simpa [List.getD, hk] using hD)
    exact this
end
end Mine
namespace Mine
section
variable {prog : Program} {w : World} {A : Around} {E : Value → Shared → Prop} {s : Shared} {h₀ : Heap} {L : Addr} {m : Str → Option Value} {news : List (Addr × Obj)}
theorem fr_kept {h h' : Heap} (F : Fr h₀ L h m) (N : News h₀ L h news) (k : ∀ d o, h.get? d = some o → h'.get? d = some o) : Fr h₀ L h' m ∧ News h₀ L h' news :=
  ⟨⟨F.ns.at' (k L), fun b o e => k b o (F.keep b o e), F.above⟩, fun p hp => ⟨k _ _ (N p hp).1, (N p hp).2⟩⟩
theorem min3_K {a b c : Int} {t u x : Tok} {Q : Value → Shared → Prop} (F : Fr h₀ L s.heap m) (N : News h₀ L s.heap news) (hh : A.handled = none)
    (h : ∀ h' tk r t', Fr h₀ L h' m → News h₀ L h' news → r = min (min a b) c → Q (.int r t') { s with heap := h', toks := tk }) :
    wpAny (model prog w) A (call (.builtin "min") [.int a t, .int b u, .int c x]) Q E s := by
  refine min_three_ints hh fun h' tk k => ?_
  obtain ⟨F', N'⟩ := fr_kept F N k
  have e : ∃ t', (if b < a then (if c < b then Value.int c x else .int b u) else (if c < a then .int c x else .int a t)) = .int (min (min a b) c) t' := by
    by_cases h1 : b < a
    · by_cases h2 : c < b
      · exact ⟨x, by rw [if_pos h1, if_pos h2]; congr 1; omega⟩
      · exact ⟨u, by rw [if_pos h1, if_neg h2]; congr 1; omega⟩
    · by_cases h2 : c < a
      · exact ⟨x, by rw [if_neg h1, if_pos h2]; congr 1; omega⟩
      · exact ⟨t, by rw [if_neg h1, if_neg h2]; congr 1; omega⟩
  obtain ⟨t', e⟩ := e
  rw [e]
  exact h h' tk _ t' F' N' rfl
end
end Mine
namespace Mine
section
variable {prog : Program} {w : World} {A : Around} {E : Value → Shared → Prop} {s : Shared} {h₀ : Heap} {L : Addr} {m : Str → Option Value} {news : List (Addr × Obj)}
theorem item_last {value slice : PySem.Expr} {l : Addr} {vs : List Value} {ns : List Int} {n k : Nat} {u : Tok} {Q : Value → Shared → Prop} (N : News h₀ L s.heap news) (hm : (l, listOf vs.toArray n) ∈ news) (hi : IntsAre vs ns) (hk : ns.length = k + 1)
    (h : ∀ t, Q (.int (ns.getD k 0) t) s)
    (hs : subscripted slice false (.ref l) (.int (-1) u) = operate [.ref l, .int (-1) u] (getItem (.ref l) (.int (-1) u))) (hg : ∀ r, letTemporaryGo value (.ref l) r = pure ()) :
    wpAny (model prog w) A (subscriptTail value slice (.ref l) (.int (-1) u)) Q E s := by
  have hl : s.heap.IsList l vs.toArray := ⟨_, (N _ hm).1, rfl, n, rfl⟩
  have e := hi.length
  obtain ⟨t, ht⟩ := hi.get k (ns.getD k 0) (by simp [List.getD, hk])
  refine subscriptTail_builtin hl.typeIs slot_list_getitem.lookup (wpAny_getItem_list_neg hl (by omega) (by simp; omega) (by omega) (x := .int (ns.getD k 0) t) ?_ (h t)) hs hg
  have : ((-1 : Int) + (vs.toArray.size : Int)).toNat = k := by simp; omega
  rw [this]; simpa using ht
end
end Mine
end
-- M1
theorem Mine.off_M1 : True := by
  w_top off
  trivial
section
namespace Mine
/-- the table from the front: e r c says whether the r-th item of one is the c-th of the other -/
def DD (e : Nat → Nat → Bool) : Nat → Nat → Int
  | 0, c => (c : Int)
  | r + 1, 0 => (r : Int) + 1
  | r + 1, c + 1 => min (min (DD e r c + (if e r c then 0 else 1)) (DD e r (c + 1) + 1)) (DD e (r + 1) c + 1)
termination_by r c => (r, c)
theorem DD_zero (e : Nat → Nat → Bool) (c : Nat) : DD e 0 c = c := by unfold DD; rfl
theorem DD_left (e : Nat → Nat → Bool) (r : Nat) : DD e r 0 = r := by
  cases r with
  | zero => unfold DD; rfl
  | succ r => unfold DD; simp
theorem DD_step (e : Nat → Nat → Bool) (r c : Nat) : DD e (r + 1) (c + 1) = min (min (DD e r c + (if e r c then 0 else 1)) (DD e r (c + 1) + 1)) (DD e (r + 1) c + 1) := by
  rw [DD]
/-- the least of three as the interpreter finds it -/
theorem least3 (a b c : Int) : (if b < a then (if c < b then c else b) else (if c < a then c else a)) = min (min a b) c := by
  repeat' split
  all_goals omega
end Mine
namespace Mine
theorem cyc_val {e : Nat → Nat → Bool} {i j : Nat} {a b c r : Int} (ha : a = DD e i j) (hb : b = DD e i (j + 1)) (hc : c = DD e (i + 1) j)
    (hr : r = min (min (a + if (!e i j) = true then 1 else 0) (b + 1)) (c + 1)) : r = DD e (i + 1) (j + 1) := by
  rw [DD_step, hr, ha, hb, hc]
  cases e i j <;> simp
theorem getD_set {l : List Int} {k q : Nat} {v : Int} (hk : k < l.length) : (l.set k v).getD q 0 = if q = k then v else l.getD q 0 := by
  by_cases h : q = k
  · subst h; simp [List.getD, hk]
  · rw [if_neg h]
    simp [List.getD, List.getElem?_set, Ne.symm h]
theorem flat_zeros (n : Nat) : (List.replicate n [(0 : Int)]).flatten = List.replicate n 0 := by
  induction n with
  | zero => rfl
  | succ n ih => rw [List.replicate_succ, List.flatten_cons, ih, List.replicate_succ]; rfl
end Mine
end
-- I1
theorem Mine.off_I1 : True := by
  w_top off
  trivial
section
open PySem PySem.W PySem.Spec PySem.Calls PyProof.Rows PyProof.V
set_option maxRecDepth 100000
set_option maxHeartbeats 8000000
namespace Mine
local macro_rules | `(tactic| k_room) => `(tactic| ktr_room)
local macro_rules | `(tactic| k_units) => `(tactic| ktr_units)
local macro_rules | `(tactic| walk_at "call type:set cons nil") => `(tactic| (k_here; k_dflt (refine' set_strs_K ?F ?N ?hh ?hm ?_; (case F => k_asm); (case N => k_asm); (case hh => exact rfl); (case hm => k_mem); k_whole); intro S' h' tk' o' F' N' l1 hS'; (try k_lt l1)))
local macro_rules | `(tactic| walk_at "call type:set cons nil") => `(tactic| (k_here; k_dflt (refine' set_tups_K ?F ?N ?hh ?hu ?hm ?ha ?hb ?_; (case F => k_asm); (case N => k_asm); (case hm => k_mem); (case ha => kqd_in); (case hb => kqd_in); (case hh => exact rfl); (case hu => ktr_units); k_whole); intro S' h' tk' o' F' N' l1 hS'; (try k_lt l1)))
local macro_rules | `(tactic| walk_at "call type:set cons nil") => `(tactic| (k_here; k_dflt (refine' set_lists_raise ?F ?N ?hh ?hu ?hm ?ha ?hb ?_; (case F => k_asm); (case N => k_asm); (case hm => k_mem); (case ha => k_mem); (case hb => first | assumption | exact rfl); (case hh => exact rfl); (case hu => ktr_units); k_whole); intro h' tk' e' hX'))
local macro_rules | `(tactic| walk_at "call builtin:len") => `(tactic| (k_here; k_dflt (refine' set_len_K ?N ?hm ?hs ?hn ?_; (case N => k_asm); (case hs => assumption); (case hm => k_mem); (case hn => (split <;> decide)); k_whole)))
local macro_rules | `(tactic| kqd_in) => `(tactic| (refine' DatIn.mono ?s ?h; (case h => assumption); (case s => (intro p9 h9; repeat (first | exact h9 | refine List.Mem.tail _ ?_)))))
local macro_rules | `(tactic| k_mem) => `(tactic| assumption)
theorem one_two {P : Prop} [Decidable P] : (((if P then 1 else 2 : Nat) : Int) == 1) = decide P := by by_cases h : P <;> simp [h]
theorem ident_str {prog : Program} {w : World} {p : Program} {loose : List Str} {mean : ExcName → Option Value} {mg mb : Str → Option Value} (news : List (Addr × Obj)) (x y : Str) (t u : Tok) :
   Claim 3 prog w (hd.heap_39 w.params) p loose mean mg mb 100 news [.str x t, .str y u] (fun _ => .bool (decide (x = y))) := by
  intro dp un gd cn cs a ccd cl outer A₀ base h₀ L m s Q E B F X N T hk hd hu hret
  obtain ⟨ck, c2, c3, c4, c5⟩ := cs
  cases hk
  w_strict (k_steps)
  exact cb_retB hret one_two (by k_asm) (cb_drop (by k_asm) (fun _ h => .tail _ (.tail _ h)))
theorem ident_tup {prog : Program} {w : World} {p : Program} {loose : List Str} {mean : ExcName → Option Value} {mg mb : Str → Option Value} (news : List (Addr × Obj)) (x y : Addr) (ks ls : List Str)
   (hx : DatIn news (.ref x) (.tuple (ks.map Dat.str))) (hy : DatIn news (.ref y) (.tuple (ls.map Dat.str))) :
   Claim 3 prog w (hd.heap_39 w.params) p loose mean mg mb 100 news [.ref x, .ref y] (fun _ => .bool (decide (ks = ls))) := by
  intro dp un gd cn cs a ccd cl outer A₀ base h₀ L m s Q E B F X N T hk hd hu hret
  obtain ⟨ck, c2, c3, c4, c5⟩ := cs
  cases hk
  w_strict (k_steps)
  exact cb_retB hret one_two (by k_asm) (cb_drop (by k_asm) (fun _ h => .tail _ (.tail _ h)))
/-- two texts, or two rows of texts -/
inductive Sort2 : Dat → Dat → Prop
  | str (x y : Str) : Sort2 (.str x) (.str y)
  | tup (ks ls : List Str) : Sort2 (.tuple (ks.map Dat.str)) (.tuple (ls.map Dat.str))
theorem strs_inj : ∀ {ks ls : List Str}, ks.map Dat.str = ls.map Dat.str → ks = ls
  | [], [], _ => rfl
  | [], _ :: _, h => by cases h
  | _ :: _, [], h => by cases h
  | k :: ks, l :: ls, h => by
    simp only [List.map_cons, List.cons.injEq, Dat.str.injEq] at h
    rw [h.1, strs_inj h.2]
open Classical in
theorem ident_item {prog : Program} {w : World} {p : Program} {loose : List Str} {mean : ExcName → Option Value} {mg mb : Str → Option Value} {news : List (Addr × Obj)} {v u : Value} {d e : Dat}
   (hv : DatIn news v d) (hu : DatIn news u e) (hs : Sort2 d e) :
   Claim 3 prog w (hd.heap_39 w.params) p loose mean mg mb 100 news [v, u] (fun _ => .bool (decide (d = e))) := by
  cases hs with
  | str x y =>
    cases hv with
    | str _ t =>
      cases hu with
      | str _ t' =>
        have := ident_str (prog := prog) (w := w) (p := p) (loose := loose) (mean := mean) (mg := mg) (mb := mb) news x y t t'
        have e : decide (Dat.str x = Dat.str y) = decide (x = y) := by simp only [Dat.str.injEq]
        rw [e]; exact this
  | tup ks ls =>
    cases hv with
    | tuple hm hr =>
      cases hu with
      | tuple hm' hr' =>
        have := ident_tup (prog := prog) (w := w) (p := p) (loose := loose) (mean := mean) (mg := mg) (mb := mb) news _ _ ks ls (DatIn.tuple hm hr) (DatIn.tuple hm' hr')
        have e : decide (Dat.tuple (ks.map Dat.str) = Dat.tuple (ls.map Dat.str)) = decide (ks = ls) := by
          have : (Dat.tuple (ks.map Dat.str) = Dat.tuple (ls.map Dat.str)) ↔ ks = ls := ⟨fun h => strs_inj (by simpa using h), fun h => by rw [h]⟩
          simp only [this]
        rw [e]; exact this
end Mine
end
local macro_rules | `(tactic| walk_at "blank 1") => `(tactic| fail "blank")
local macro_rules | `(tactic| walk_at "blank 2") => `(tactic| fail "blank")
local macro_rules | `(tactic| walk_at "blank 3") => `(tactic| fail "blank")
local macro_rules | `(tactic| walk_at "blank 4") => `(tactic| fail "blank")
local macro_rules | `(tactic| walk_at "blank 5") => `(tactic| fail "blank")
-- C1
theorem Mine.off_C1 : True := by
  w_top off
  trivial
section
open PySem PySem.W PySem.Spec PySem.Calls PyProof.Rows PyProof.V
set_option maxRecDepth 100000
set_option maxHeartbeats 8000000
namespace Mine
local macro_rules | `(tactic| k_room) => `(tactic| ktr_room)
local macro_rules | `(tactic| k_units) => `(tactic| ktr_units)
local macro_rules | `(tactic| k_mem) => `(tactic| assumption)
-- the walk stands before a for, and before its iterator
local macro_rules | `(tactic| k_steps) => `(tactic| repeat' ((fail_if_success (with_reducible show wpAny _ _ (exec (PySem.Stmt.For _ _ _ _ _) _) _ _ _)); (fail_if_success (with_reducible show wpAny _ _ (pyIter _) (fun it s₂ => LoopAtV _ _ _ _ _ _ _ _ _ it s₂) _ _)); first | (k_unfold; (try dsimp only)) | (k_end; wrow_close) | walk1 | (dsimp only; walk1) | (leave1; walk_say "STEP leave1"; try dsimp only) | fail "no step"))
local macro_rules | `(tactic| kqd_in) => `(tactic| first | assumption | (refine' DatIn.mono ?s ?h; (case h => assumption); (case s => (intro p9 h9; repeat (first | exact h9 | refine List.Mem.tail _ ?_)))))
local macro_rules | `(tactic| walk_at "call builtin:len") => `(tactic| (k_here; k_dflt (refine' seq_len ?N ?hS ?hl ?_; (case N => k_asm); (case hS => first | assumption | (refine' SeqIn.mono ?s ?h; (case h => assumption); (case s => (intro p9 h9; repeat (first | exact h9 | refine List.Mem.tail _ ?_))))); (case hl => assumption); k_whole)))
local macro_rules | `(tactic| walk_at "subscriptTail") => `(tactic| (k_here; k_dflt (refine' seq_item ?N ?hS ?hl ?h0 ?h1 ?_ ?hs ?ht; (case N => k_asm); (case hS => first | assumption | (refine' SeqIn.mono ?s ?h; (case h => assumption); (case s => (intro p9 h9; repeat (first | exact h9 | refine List.Mem.tail _ ?_))))); (case hl => assumption); (case h0 => omega); (case h1 => omega); (case hs => with_unfolding_all rfl); (case ht => (intro _; with_unfolding_all rfl)); k_whole); intro v' tk' dI'))
local macro_rules | `(tactic| walk_at "call ref") => `(tactic| (k_here; (with_reducible show wpAny _ _ (call (Value.ref 100) [_, _]) _ _ _); k_dflt (refine' (ident_item ?dx ?dy ?ds) _ _ _ _ _ _ _ _ _ _ _ _ _ _ _ _ _ ?B ?F ?X ?N ?T ?kk ?hd ?hu ?_; (case N => k_asm); (case F => k_asm); (case B => k_asm); (case X => k_asm); (case T => k_asm); (case kk => exact rfl); (case hd => ktr_room); (case hu => ktr_units); (case dx => kqd_in); (case dy => kqd_in); (case ds => ((rename (∀ i j : Nat, i < _ → j < _ → Sort2 _ _) => hso9); exact hso9 _ _ (by omega) (by omega))); k_whole); intro t9 h9 tk9 F9 N9; (try k_fold)))
local macro_rules | `(tactic| walk_at "call builtin:min") => `(tactic| (k_here; (with_reducible show wpAny _ _ (call (Value.builtin "min") [Value.int _ _, Value.int _ _, Value.int _ _]) _ _ _); k_dflt (refine' min3_K ?F ?N ?hh ?_; (case F => k_asm); (case N => k_asm); (case hh => exact rfl); k_whole); intro h' tk' r9 t' F' N' hr9))
open Classical in
theorem cycled_walk {prog : Program} {w : World} {p : Program} {loose : List Str} {mean : ExcName → Option Value} {mg mb : Str → Option Value} (news : List (Addr × Obj)) (v1 v2 : Value) (ds es : List Dat) (sf dx : Addr) (h1 h2 h3 : Int) (t1 t2 t3 : Tok) (qv : Value) (nd : Nat)
   (hsf : (sf, instObj 189 dx) ∈ news) (hdx : (dx, dictOf [⟨h1, .str (Str.ofString "qval") t1, qv⟩, ⟨h2, .str (Str.ofString "test_func") t2, .ref 100⟩, ⟨h3, .str (Str.ofString "external") t3, .bool true⟩] nd) ∈ news)
   (hS1 : SeqIn news v1 ds) (hS2 : SeqIn news v2 es) (hlx : ds.length ≤ 6) (hly : es.length ≤ 6) (hso : ∀ i j : Nat, i < ds.length → j < es.length → Sort2 (ds.getD i .none) (es.getD j .none)) :
   Claim 6 prog w (hd.heap_39 w.params) p loose mean mg mb 179 news [.ref sf, v1, v2] (fun t => .int (DD (fun r c => decide (ds.getD r .none = es.getD c .none)) ds.length es.length) t) := by
  intro dp un gd cn cs a ccd cl outer A₀ base h₀ L m s Q E B F X N T hk hd hu hret
  obtain ⟨ck, c2, c3, c4, c5⟩ := cs
  cases hk
  w_strict k_steps
  rename Fr _ _ _ _ => FL
  w_strict (refine For_invVF FL (by rfl) (by rfl) ?_)
  w_strict k_steps
  rename IsRange _ _ 1 _ _ _ _ _ => RG
  rename Fr _ _ _ _ => FL
  rename News _ _ _ (_ :: _) => NL
  w_strict (refine range_loop (n := ds.length) (fun r m₁ nx => ∃ lc vs nv row, (∀ p ∈ ([("self", .ref sf), ("s1", v1), ("s2", v2), ("cur", .ref lc)] : List (Str × Value)), m₁ p.1 = some p.2) ∧ (∃ t', m₁ "cols" = some (.int (es.length + 1) t')) ∧ (∀ p ∈ news, p ∈ nx) ∧ (lc, W.listOf vs.toArray nv) ∈ nx ∧ IntsAre vs row ∧ row.length = es.length + 1 ∧ ∀ c, c ≤ es.length → row.getD c 0 = DD (fun r c => decide (ds.getD r .none = es.getD c .none)) r c) (by rfl) RG (rsmall_up hlx) (rsize_up hlx) FL NL ?_ ?_ ?_)
  · refine ⟨_, _, _, _, ?_, ⟨_, by with_unfolding_all rfl⟩, fun p hp => .tail _ hp, .head _, by assumption, ?_, ?_⟩
    · (repeat (first | exact List.forall_mem_nil _ | refine List.forall_mem_cons.mpr ⟨by with_unfolding_all rfl, ?_⟩))
    · rw [rangeKs_length]; omega
    · intro c hc
      rw [DD_zero]
      have e : ((es.length : Int) + 1 - 0).toNat = es.length + 1 := by omega
      rw [e]
      have hc' : c < es.length + 1 := by omega
      simp [rangeKs, List.getD, hc']
  · rintro i ti m₁ nx hh tk own hi hoff ⟨lc, vs, nv, row, hps, ⟨tc, hcols⟩, hsub, hlc, hIv, hrl, hrow⟩ F₁ N₁
    clear FL NL
    have F₂ := fr_named ([("self", .ref sf), ("s1", v1), ("s2", v2), ("cols", .int (es.length + 1) tc), ("cur", .ref lc)] : List (Str × Value)) (List.forall_mem_cons.mpr ⟨hps _ (by simp), List.forall_mem_cons.mpr ⟨hps _ (by simp), List.forall_mem_cons.mpr ⟨hps _ (by simp), List.forall_mem_cons.mpr ⟨hcols, List.forall_mem_cons.mpr ⟨hps _ (by simp), List.forall_mem_nil _⟩⟩⟩⟩⟩) F₁
    clear F₁
    w_strict k_steps
    rename Fr _ _ _ _ => FL
    w_strict (refine For_invVF FL (by rfl) (by rfl) ?_)
    w_strict k_steps
    rename IsRange _ _ 1 _ _ _ _ _ => RG
    rename Fr _ _ _ _ => FL
    rename News _ _ _ (_ :: _) => NL
    rename IntsAre _ ([_] ++ _) => hIc
    rename _ ∧ _ ∧ _ ∧ AllLt _ (nx ++ own) => hlt
    have NI := drop_mid NL
    w_strict (refine range_loop (n := es.length) (fun c m₁ nx1 => ∃ lcur ws nw cur rest, (∀ p ∈ ([("self", .ref sf), ("s1", v1), ("s2", v2), ("r", .int (1 + i * 1) ti), ("cols", .int (es.length + 1) tc), ("prev", .ref lc), ("cur", .ref lcur)] : List (Str × Value)), m₁ p.1 = some p.2) ∧ nx1 = (lcur, W.listOf ws.toArray nw) :: rest ∧ (∀ p ∈ rest, p.1 ≠ lcur) ∧ (∀ p ∈ nx ++ own, p ∈ rest) ∧ IntsAre ws cur ∧ cur.length = es.length + 1 ∧ ∀ k, k ≤ c → cur.getD k 0 = DD (fun r c => decide (ds.getD r .none = es.getD c .none)) (i + 1) k) (by rfl) RG (rsmall_up hly) (rsize_up hly) FL NI ?_ ?_ ?_)
    · refine ⟨_, _, _, _, _, ?_, rfl, allLt_ne hlt.2.2.2, fun p hp => hp, hIc, ?_, ?_⟩
      · (repeat (first | exact List.forall_mem_nil _ | refine List.forall_mem_cons.mpr ⟨by with_unfolding_all rfl, ?_⟩))
      · have e : ((es.length : Int) + 1 - 1).toNat = es.length := by omega
        rw [e, flat_zeros]; simp <;> omega
      · intro k hk
        obtain rfl : k = 0 := by omega
        rw [DD_left]
        simp; omega
    · rintro j tj m₂ nx1 hh2 tk2 own2 hj hoff2 ⟨lcur, ws, nw, cur, rest, hps2, rfl, hrest, hsub2, hIc2, hcl, hcur⟩ F₂ N₂
      clear FL NL NI
      have F₃ := fr_named ([("self", .ref sf), ("s1", v1), ("s2", v2), ("r", .int (1 + i * 1) ti), ("cols", .int (es.length + 1) tc), ("prev", .ref lc), ("cur", .ref lcur)] : List (Str × Value)) hps2 F₂
      clear F₂
      have hoffr : ∀ p ∈ rest ++ own2, p.1 ≠ lcur := fun p hp => (List.mem_append.mp hp).elim (hrest p) fun hp => hoff2 p hp lcur (.head _)
      have hlcR : (lc, W.listOf vs.toArray nv) ∈ rest ++ own2 := List.mem_append_left _ (hsub2 _ (List.mem_append_left _ hlc))
      have hsfR : (sf, instObj 189 dx) ∈ rest ++ own2 := List.mem_append_left _ (hsub2 _ (List.mem_append_left _ (hsub _ hsf)))
      have hdxR := List.mem_append_left own2 (hsub2 _ (List.mem_append_left _ (hsub _ hdx)))
      have hS1R : SeqIn (rest ++ own2) v1 ds := hS1.mono fun p hp => List.mem_append_left _ (hsub2 _ (List.mem_append_left _ (hsub _ hp)))
      have hS2R : SeqIn (rest ++ own2) v2 es := hS2.mono fun p hp => List.mem_append_left _ (hsub2 _ (List.mem_append_left _ (hsub _ hp)))
      simp only [List.cons_append] at N₂
      w_strict k_steps
      rename _ = min _ _ => hr9
      dsimp only
      refine ksa_set (by assumption) (by assumption) (Upd.head hoffr) hIc2 (by omega) (by omega) (by omega) ?_
      intro h' F' N' hI' hlen' _
      w_strict k_steps
      refine InvEndG.intro (nx := (lcur, W.listOf _ nw) :: rest) (by assumption) (by assumption) ⟨lcur, _, nw, _, rest, ?_, rfl, hrest, hsub2, hI', by rw [hlen']; exact hcl, ?_⟩ hoff2 ?_ ?_
      · (repeat (first | exact List.forall_mem_nil _ | refine List.forall_mem_cons.mpr ⟨by with_unfolding_all rfl, ?_⟩))
      · intro k hk
        have e1 : (1 + (j : Int) * 1).toNat = j + 1 := by omega
        have e2 : (1 + (j : Int) * 1 - 1).toNat = j := by omega
        have e3 : (1 + (i : Int) * 1 - 1).toNat = i := by omega
        rw [e1, e2, e3] at hr9
        rw [e1, getD_set (by omega)]
        by_cases hk' : k = j + 1
        · rw [if_pos hk', hk']
          exact cyc_val (hrow j (by omega)) (hrow (j + 1) (by omega)) (hcur j (by omega)) hr9
        · rw [if_neg hk']
          exact hcur k (by omega)
      · intro p hp
        rcases List.mem_cons.mp hp with rfl | hp
        · exact .head _
        · exact .tail _ (List.mem_append_left _ hp)
      · intro p hp
        exact .tail _ (List.mem_append_right _ hp)
    · rintro m₂ nx1 hh2 tk2 ⟨lcur, ws, nw, cur, rest, hps2, rfl, hrest, hsub2, hIc2, hcl, hcur⟩ F₂ N₂
      clear FL NL NI
      have F₃ := fr_named0 ([("self", .ref sf), ("s1", v1), ("s2", v2), ("r", .int (1 + i * 1) ti), ("cols", .int (es.length + 1) tc), ("prev", .ref lc), ("cur", .ref lcur)] : List (Str × Value)) hps2 F₂
      clear F₂
      w_strict k_steps
      refine InvEndG.intro (nx := (lcur, W.listOf ws.toArray nw) :: nx) (by assumption) (by assumption) ⟨lcur, ws, nw, cur, ?_, ⟨tc, by with_unfolding_all rfl⟩, fun p hp => .tail _ (hsub p hp), .head _, hIc2, hcl, hcur⟩ ?_ ?_ ?_
      · (repeat (first | exact List.forall_mem_nil _ | refine List.forall_mem_cons.mpr ⟨by with_unfolding_all rfl, ?_⟩))
      · intro p hp b hb
        rcases List.mem_cons.mp hb with rfl | hb
        · exact hrest p (hsub2 p (List.mem_append_right _ hp))
        · exact hoff p hp b hb
      · intro p hp
        rcases List.mem_cons.mp hp with rfl | hp
        · exact .head _
        · exact .tail _ (hsub2 p (List.mem_append_left _ hp))
      · intro p hp
        exact .tail _ (hsub2 p (List.mem_append_right _ hp))
  · rintro m₁ nx hh tk ⟨lc, vs, nv, row, hps, ⟨tc, hcols⟩, hsub, hlc, hIv, hrl, hrow⟩ F₁ N₁
    clear FL NL
    have F₂ := fr_named0 ([("self", .ref sf), ("s1", v1), ("s2", v2), ("cols", .int (es.length + 1) tc), ("cur", .ref lc)] : List (Str × Value)) (List.forall_mem_cons.mpr ⟨hps _ (by simp), List.forall_mem_cons.mpr ⟨hps _ (by simp), List.forall_mem_cons.mpr ⟨hps _ (by simp), List.forall_mem_cons.mpr ⟨hcols, List.forall_mem_cons.mpr ⟨hps _ (by simp), List.forall_mem_nil _⟩⟩⟩⟩⟩) F₁
    clear F₁
    w_strict k_steps
    refine item_last (by assumption) hlc hIv hrl (fun t => ?_) (by with_unfolding_all rfl) (by intro _; with_unfolding_all rfl)
    w_strict k_steps
    exact cb_retI hret (hrow _ (Nat.le_refl _)) (by k_asm) (cb_drop (by k_asm) hsub)
end Mine
end
local macro_rules | `(tactic| walk_at "blank 6") => `(tactic| fail "blank")
local macro_rules | `(tactic| walk_at "blank 7") => `(tactic| fail "blank")
local macro_rules | `(tactic| walk_at "blank 8") => `(tactic| fail "blank")
local macro_rules | `(tactic| walk_at "blank 9") => `(tactic| fail "blank")
local macro_rules | `(tactic| walk_at "blank 10") => `(tactic| fail "blank")
-- L2
theorem Mine.off_L2 : True := by
  w_top off
  trivial
section
open PySem PySem.W PySem.Spec PySem.Calls PyProof.Rows PyProof.V
set_option maxRecDepth 100000
namespace Mine
section
variable {prog : Program} {w : World} {A : Around} {h₀ : Heap} {L : Addr} {m : Str → Option Value} {env : Env} {elt : Expr} {x : Str} {scope : Scope} {cl : List (Str × Addr)} {s : Shared} {S : List (Addr × Obj) → Prop} {P : Nat → Value → Prop} {Fin : List Value → List (Addr × Obj) → Prop} {news : List (Addr × Obj)}
/-- a comprehension, by what holds of the items made so far and of the ledger -/
theorem comp_inv {n : Nat} (J : Nat → List Value → List (Addr × Obj) → Prop)
    (turn : ∀ i v I oI C oC D m₂ ys nx h tk (E' : Value → Shared → Prop), i < n → P i v → J i ys nx → LCg.NsObj oC m₂ → m₂ x = some v → Fr h₀ L h m → News h₀ L h ((I, oI) :: (C, oC) :: (D, LCg.lst ys) :: nx) → LCg.Off3 I C D nx → ((@Ne Nat I C) ∧ (@Ne Nat I D) ∧ (@Ne Nat C D)) →
      wpAny (model prog w) A (eval elt (compEnvC scope cl C env)) (LCg.CompEnd h₀ L m { s with heap := h, toks := tk } I oI C oC D (LCg.lst ys) S (fun y nx' => J (i + 1) (ys ++ [y]) nx')) E' { s with heap := h, toks := tk })
    (fin : ∀ ys nx, J n ys nx → Fin ys nx) (hj : J 0 [] news) : LCg.CompRest prog w A h₀ L m env elt x scope cl s S P Fin n 0 [] news := by
  have key : ∀ (j i : Nat) (ys : List Value) (nx : List (Addr × Obj)), i + j = n → J i ys nx → LCg.CompRest prog w A h₀ L m env elt x scope cl s S P Fin j i ys nx := by
    intro j
    induction j with
    | zero =>
      intro i ys nx hi hJ
      have e : i = n := by omega
      subst e
      exact LCg.CompRest.zero (fin ys nx hJ)
    | succ j ih =>
      intro i ys nx hi hJ
      refine LCg.CompRest.succ ?_
      intro v I oI C oC D m₂ h tk E' hv hC hx F N off ne
      refine wpAny_mono (turn i v I oI C oC D m₂ ys nx h tk E' (by omega) hv hJ hC hx F N off ne) (fun y s₂ hq => ?_) fun _ _ e => e
      obtain ⟨h', tk', nw, e, F', N', off', hS, hJ'⟩ := hq
      exact ⟨h', tk', nw, e, F', N', off', hS, ih (i + 1) _ _ (by omega) hJ'⟩
  exact key n 0 [] _ (by omega) hj
end
theorem comp_invN {prog : Program} {w : World} {A : Around} {h₀ : Heap} {L : Addr} {m : Str → Option Value} {env : Env} {elt : Expr} {x : Str} {scope : Scope} {cl : List (Str × Addr)} {s : Shared} {S : List (Addr × Obj) → Prop} {P : Nat → Value → Prop} {Fin : List Value → List (Addr × Obj) → Prop} {news : List (Addr × Obj)} {n : Nat} (J : List (Addr × Obj) → Nat → List Value → List (Addr × Obj) → Prop)
    (turn : ∀ i v I oI C oC D m₂ ys nx h tk (E' : Value → Shared → Prop), i < n → P i v → J news i ys nx → LCg.NsObj oC m₂ → m₂ x = some v → Fr h₀ L h m → News h₀ L h ((I, oI) :: (C, oC) :: (D, LCg.lst ys) :: nx) → LCg.Off3 I C D nx → ((@Ne Nat I C) ∧ (@Ne Nat I D) ∧ (@Ne Nat C D)) →
      wpAny (model prog w) A (eval elt (compEnvC scope cl C env)) (LCg.CompEnd h₀ L m { s with heap := h, toks := tk } I oI C oC D (LCg.lst ys) S (fun y nx' => J news (i + 1) (ys ++ [y]) nx')) E' { s with heap := h, toks := tk })
    (fin : ∀ ys nx, J news n ys nx → Fin ys nx) (hj : J news 0 [] news) : LCg.CompRest prog w A h₀ L m env elt x scope cl s S P Fin n 0 [] news :=
  comp_inv (J news) turn fin hj
/-- the ledger with one object put otherwise -/
def repl (T : Addr) (o : Obj) (l : List (Addr × Obj)) : List (Addr × Obj) := l.map fun p => if p.1 = T then (T, o) else p
theorem repl_other {T a : Addr} {o o' : Obj} {l : List (Addr × Obj)} (h : (a, o') ∈ l) (ne : a ≠ T) : (a, o') ∈ repl T o l :=
  List.mem_map.mpr ⟨_, h, if_neg ne⟩
theorem repl_at {T : Addr} {o o' : Obj} {l : List (Addr × Obj)} (h : (T, o') ∈ l) : (T, o) ∈ repl T o l :=
  List.mem_map.mpr ⟨_, h, if_pos rfl⟩
theorem repl_adr {T : Addr} {o : Obj} {l : List (Addr × Obj)} : (repl T o l).map (·.1) = l.map (·.1) := by
  unfold repl
  rw [List.map_map]
  refine List.map_congr_left fun p _ => ?_
  show (if p.1 = T then (T, o) else p).1 = p.1
  split
  · next h => exact h.symm
  · rfl
theorem repl_app {T : Addr} {o : Obj} {l r : List (Addr × Obj)} : repl T o (l ++ r) = repl T o l ++ repl T o r := List.map_append
theorem repl_off {T : Addr} {o : Obj} {l : List (Addr × Obj)} (h : ∀ p ∈ l, p.1 ≠ T) : repl T o l = l := by
  unfold repl
  conv => rhs; rw [← List.map_id l]
  exact List.map_congr_left fun p hp => if_neg (h p hp)
section
variable {prog : Program} {w : World} {A : Around} {E : Value → Shared → Prop} {s : Shared} {h₀ : Heap} {L D : Addr} {m : Str → Option Value} {news : List (Addr × Obj)} {vs : List Value} {ns : List Int} {n : Nat} {k x : Int} {t u : Tok}
theorem set_repl {Q : Unit → Shared → Prop} (F : Fr h₀ L s.heap m) (N : News h₀ L s.heap news) (hm : (D, listOf vs.toArray n) ∈ news) (hi : IntsAre vs ns) (h0 : 0 ≤ k) (h1 : k < ns.length) (hfit : k < 2 ^ 63)
    (h : ∀ h', Fr h₀ L h' m → News h₀ L h' (repl D (listOf (vs.set k.toNat (.int x u)).toArray n) news) → IntsAre (vs.set k.toNat (.int x u)) (ns.set k.toNat x) → Q () { s with heap := h' }) :
    wpAny (model prog w) A (setItem (.ref D) (.int k t) (.int x u)) Q E s := by
  have z := N (D, listOf vs.toArray n) hm
  have hl : vs.length = ns.length := hi.length
  refine ki_setAt z.1 h0 hfit (by rw [List.size_toArray]; omega) (h _ (F.change (Heap.SameBut.update ..) z.2.1 z.2.2) (fun p hp => ?_) (ints_set hi _))
  obtain ⟨q, hq, rfl⟩ := List.mem_map.mp hp
  have zq := N q hq
  have e : (Array.setIfInBounds vs.toArray k.toNat (.int x u)) = (vs.set k.toNat (.int x u)).toArray := by
    apply Array.toList_inj.mp
    simp
  by_cases hqD : q.1 = D
  · rw [if_pos hqD]
    refine ⟨?_, z.2⟩
    have := PySem.IsL.update z.1 (fun a => Array.setIfInBounds a k.toNat (.int x u))
    rw [e] at this
    simpa using this
  · rw [if_neg hqD]
    exact ⟨(Heap.SameBut.update ..).extBut _ _ hqD zq.1, zq.2⟩
open Classical in
theorem item_eq {v v' : Value} {d e : Dat} {Q : Value → Shared → Prop} (N : News h₀ L s.heap news) (hv : DatIn news v d) (hv' : DatIn news v' e) (hd : kqdOk 8 d = true) (he : kqdOk 8 e = true) (hu : A.units + 64 < cLine)
    (h : Q (.bool (decide (d = e))) s) : wpAny (model prog w) A (compareOp .Eq v v') Q E s := by
  obtain ⟨as, ra⟩ := kqd_in N 8 hv hd
  obtain ⟨bs, rb⟩ := kqd_in N 8 hv' he
  have la := kqd_lay 8 d hd
  have lb := kqd_lay 8 e he
  have eq : PyData.eqv (kqdP d) (kqdP e) = decide (d = e) := by
    have q := kqd_eqv 8 d e 8 hd he
    by_cases hq : d = e
    · rw [decide_eq_true hq]; exact q.mpr hq
    · rw [decide_eq_false hq]; exact Bool.eq_false_iff.mpr fun x => hq (q.mp x)
  refine eq_dataH ra rb ?_ ?_ hu (by rw [eq]; exact h)
  · unfold SeqAt.shaped; rw [la.1, Bool.true_and]; exact decide_eq_true (Nat.le_trans la.2 (by decide))
  · unfold SeqAt.shaped; rw [lb.1, Bool.true_and]; exact decide_eq_true (Nat.le_trans lb.2 (by decide))
/-- an item of a list that the ledger holds -/
theorem item_ref {value slice : PySem.Expr} {v' : Value} {Q : Value → Shared → Prop} (N : News h₀ L s.heap news) (hm : (D, listOf vs.toArray n) ∈ news) (h0 : 0 ≤ k) (h1 : k < 2 ^ 63) (hv : vs[k.toNat]? = some v')
    (h : Q v' s) (hs : subscripted slice false (.ref D) (.int k u) = operate [.ref D, .int k u] (getItem (.ref D) (.int k u)))
    (ht : ∀ r, letTemporaryGo value (.ref D) r = pure ()) :
    wpAny (model prog w) A (subscriptTail value slice (.ref D) (.int k u)) Q E s :=
  PyProof.Rows.item_list (x := v') ⟨_, (N _ hm).1, rfl, n, rfl⟩ h0 h1 (by simpa using hv) h hs ht
end
theorem rsize_down {n : Nat} (h : n ≤ 6) : Builtin.Range.rangeSize (n : Int) (-1) (-1) = ((n + 1 : Nat) : Int) := by
  rcases six h with rfl | rfl | rfl | rfl | rfl | rfl | rfl <;> decide
theorem rsmall_down {n : Nat} (h : n ≤ 6) : Builtin.Range.small (n : Int) (-1) (-1) = true := by
  rcases six h with rfl | rfl | rfl | rfl | rfl | rfl | rfl <;> decide
theorem rsize_0 {n : Nat} (h : n ≤ 6) : Builtin.Range.rangeSize 0 ((n : Int) + 1) 1 = ((n + 1 : Nat) : Int) := by
  rcases six h with rfl | rfl | rfl | rfl | rfl | rfl | rfl <;> decide
theorem rsmall_0 {n : Nat} (h : n ≤ 6) : Builtin.Range.small 0 ((n : Int) + 1) 1 = true := by
  rcases six h with rfl | rfl | rfl | rfl | rfl | rfl | rfl <;> decide
end Mine
end
-- L3
theorem Mine.off_L3 : True := by
  w_top off
  trivial
section
open PySem PySem.W PySem.Spec PySem.Calls PyProof.Rows PyProof.V
set_option maxRecDepth 100000
namespace Mine
/-- rows of numbers: the row at T holds what R says -/
def RowsAt (nx : List (Addr × Obj)) (Ts : List Addr) (R : Nat → List Int) : Prop := ∀ i T, Ts[i]? = some T → ∃ vs n, (T, W.listOf vs.toArray n) ∈ nx ∧ IntsAre vs (R i)
theorem RowsAt.mono {nx nx' : List (Addr × Obj)} {Ts : List Addr} {R : Nat → List Int} (h : RowsAt nx Ts R) (hs : ∀ p ∈ nx, p ∈ nx') : RowsAt nx' Ts R := fun i T e => by
  obtain ⟨vs, n, hm, hi⟩ := h i T e
  exact ⟨vs, n, hs _ hm, hi⟩
theorem rows_step {n0 nx : List (Addr × Obj)} {Ts : List Addr} {T : Addr} {vs : List Value} {n : Nat} {R : Nat → List Int} (hsub : ∀ p ∈ n0, p ∈ nx) (hTn : Ts.Nodup) (hTo : ∀ T ∈ Ts, ∀ p ∈ n0, p.1 ≠ T) (hTx : ∀ T ∈ Ts, ∃ o, (T, o) ∈ nx) (hR : RowsAt nx Ts R)
    (hlt : AllLt T nx) (hI : IntsAre vs (R Ts.length)) :
    ((Ts ++ [T]).Nodup) ∧ (∀ T' ∈ Ts ++ [T], ∀ p ∈ n0, p.1 ≠ T') ∧ (∀ T' ∈ Ts ++ [T], ∃ o, (T', o) ∈ (T, W.listOf vs.toArray n) :: nx) ∧ (∀ p ∈ n0, p ∈ (T, W.listOf vs.toArray n) :: nx) ∧ RowsAt ((T, W.listOf vs.toArray n) :: nx) (Ts ++ [T]) R := by
  have hne := allLt_ne hlt
  refine ⟨?_, ?_, ?_, fun p hp => .tail _ (hsub p hp), ?_⟩
  · rw [List.nodup_append]
    refine ⟨hTn, by simp, ?_⟩
    intro a ha b hb
    rw [List.mem_singleton] at hb
    subst hb
    obtain ⟨o, ho⟩ := hTx a ha
    exact hne _ ho
  · intro T' hT' p hp
    rcases List.mem_append.mp hT' with h | h
    · exact hTo T' h p hp
    · rw [List.mem_singleton] at h
      subst h
      exact hne p (hsub p hp)
  · intro T' hT'
    rcases List.mem_append.mp hT' with h | h
    · obtain ⟨o, ho⟩ := hTx T' h
      exact ⟨o, .tail _ ho⟩
    · rw [List.mem_singleton] at h
      subst h
      exact ⟨_, .head _⟩
  · intro i T' e
    rcases Nat.lt_or_ge i Ts.length with hi | hi
    · rw [List.getElem?_append_left hi] at e
      obtain ⟨vs', n', hm, hi'⟩ := hR i T' e
      exact ⟨vs', n', .tail _ hm, hi'⟩
    · rw [List.getElem?_append_right hi] at e
      have hz : i - Ts.length = 0 := by
        rcases Nat.eq_zero_or_pos (i - Ts.length) with h | h
        · exact h
        · rw [List.getElem?_eq_none (by simp only [List.length_singleton]; omega)] at e; cases e
      rw [hz] at e
      simp at e
      subst e
      obtain rfl : i = Ts.length := by omega
      exact ⟨vs, n, .head _, hI⟩
theorem compEnd_new {h₀ : Heap} {L I C D : Addr} {m : Str → Option Value} {s₁ : Shared} {oI oC oD : Obj} {rest : Value → List (Addr × Obj) → Prop} {y : Value} {h' : Heap} {tk : Nat} {t t2 : Addr × Obj} {nx : List (Addr × Obj)}
    (F : Fr h₀ L h' m) (N : News h₀ L h' (t :: t2 :: (I, oI) :: (C, oC) :: (D, oD) :: nx)) (h1 : I < t.1) (h2 : C < t.1) (h3 : D < t.1) (off : LCg.Off3 I C D nx) (r : rest y (t :: nx)) :
    LCg.CompEnd h₀ L m s₁ I oI C oC D oD (fun _ => True) rest y { s₁ with heap := h', toks := tk } := by
  refine LCg.CompEnd.intro F N (t :: nx) ?_ ⟨⟨Nat.ne_of_gt h1, Nat.ne_of_gt h2, Nat.ne_of_gt h3⟩, off⟩ trivial r
  intro p hp
  rcases List.mem_cons.mp hp with rfl | hp
  · exact .tail _ (.tail _ (.head _))
  rcases List.mem_cons.mp hp with rfl | hp
  · exact .tail _ (.tail _ (.tail _ (.head _)))
  rcases List.mem_cons.mp hp with rfl | hp
  · exact .tail _ (.tail _ (.tail _ (.tail _ (.head _))))
  rcases List.mem_cons.mp hp with rfl | hp
  · exact .head _
  · exact .tail _ (.tail _ (.tail _ (.tail _ (.tail _ hp))))
section
variable {prog : Program} {w : World} {A : Around} {E : Value → Shared → Prop} {s : Shared} {h₀ : Heap} {L D : Addr} {m : Str → Option Value} {news nx own : List (Addr × Obj)} {Ts : List Addr} {R : Nat → List Int} {k c x : Int} {t u : Tok} {nr nc : Nat}
theorem rows_row {value slice : PySem.Expr} {Q : Value → Shared → Prop} {n : Nat} (hl : Ts.length = nr + 1) (N : News h₀ L s.heap news) (hm : (D, W.listOf (Ts.map Value.ref).toArray n) ∈ news) (h0 : 0 ≤ k) (h1 : k < nr + 1) (hfit : nr ≤ 6)
    (h : Q (.ref (Ts.getD k.toNat 0)) s) (hs : subscripted slice false (.ref D) (.int k u) = operate [.ref D, .int k u] (getItem (.ref D) (.int k u)))
    (ht : ∀ r, letTemporaryGo value (.ref D) r = pure ()) :
    wpAny (model prog w) A (subscriptTail value slice (.ref D) (.int k u)) Q E s := by
  have hk : k.toNat < Ts.length := by omega
  exact item_ref N hm h0 (by omega) (by simp [List.getD, hk]) h hs ht
theorem rows_get {value slice : PySem.Expr} {Q : Value → Shared → Prop} (hl : Ts.length = nr + 1) (hR : RowsAt news Ts R) (N : News h₀ L s.heap news) (hlen : ∀ q, q ≤ nr → (R q).length = nc + 1) (h0 : 0 ≤ k) (h1 : k < nr + 1) (g0 : 0 ≤ c) (g1 : c < nc + 1) (hfit : nc ≤ 6)
    (h : ∀ t, Q (.int ((R k.toNat).getD c.toNat 0) t) s) (hs : subscripted slice false (.ref (Ts.getD k.toNat 0)) (.int c u) = operate [.ref (Ts.getD k.toNat 0), .int c u] (getItem (.ref (Ts.getD k.toNat 0)) (.int c u))) :
    wpAny (model prog w) A (subscriptTail value slice (.ref (Ts.getD k.toNat 0)) (.int c u)) Q E s := by
  have hk : k.toNat < Ts.length := by omega
  obtain ⟨vs, n, hm, hi⟩ := hR k.toNat (Ts.getD k.toNat 0) (by simp [List.getD, hk])
  have := hlen k.toNat (by omega)
  exact ksa_sub N hm hi g0 (by omega) (by omega) h hs
theorem rows_set {Q : Unit → Shared → Prop} (F : Fr h₀ L s.heap m) (hl : Ts.length = nr + 1) (hn : Ts.Nodup) (hR : RowsAt nx Ts R) (N : News h₀ L s.heap (nx ++ own)) (hlen : ∀ q, q ≤ nr → (R q).length = nc + 1) (h0 : 0 ≤ k) (h1 : k < nr + 1) (g0 : 0 ≤ c) (g1 : c < nc + 1) (hfit : nc ≤ 6)
    (hoff : OwnOff own (nx.map (·.1)))
    (h : ∀ h' nx', Fr h₀ L h' m → News h₀ L h' (nx' ++ own) → OwnOff own (nx'.map (·.1)) → RowsAt nx' Ts (fun q => if q = k.toNat then (R k.toNat).set c.toNat x else R q) → (∀ a o, (∀ T ∈ Ts, a ≠ T) → (a, o) ∈ nx → (a, o) ∈ nx') → Q () { s with heap := h' }) :
    wpAny (model prog w) A (setItem (.ref (Ts.getD k.toNat 0)) (.int c t) (.int x u)) Q E s := by
  have hk : k.toNat < Ts.length := by omega
  have hT : Ts[k.toNat]? = some (Ts.getD k.toNat 0) := by simp [List.getD, hk]
  generalize hTe : Ts.getD k.toNat 0 = T at hT ⊢
  obtain ⟨vs, n, hm, hi⟩ := hR k.toNat T hT
  have := hlen k.toNat (by omega)
  refine set_repl F N (List.mem_append_left _ hm) hi g0 (by omega) (by omega) fun h' F' N' hi' => ?_
  have hoT : ∀ p ∈ own, p.1 ≠ T := fun p hp => hoff p hp T (List.mem_map.mpr ⟨_, hm, rfl⟩)
  rw [repl_app, repl_off hoT] at N'
  refine h h' _ F' N' (by rw [repl_adr]; exact hoff) ?_ ?_
  · intro i T' e
    by_cases hi2 : i = k.toNat
    · subst hi2
      rw [hT] at e
      obtain rfl := Option.some.inj e
      refine ⟨_, _, repl_at hm, ?_⟩
      simpa using hi'
    · obtain ⟨vs2, n2, hm2, hi3⟩ := hR i T' e
      refine ⟨vs2, n2, repl_other hm2 ?_, by simpa [hi2] using hi3⟩
      intro eq
      subst eq
      have hil : i < Ts.length := by
        rcases Nat.lt_or_ge i Ts.length with h | h
        · exact h
        · rw [List.getElem?_eq_none h] at e; cases e
      exact hi2 ((List.getElem?_inj hil hn).mp (e.trans hT.symm))
  · intro a o ha hao
    exact repl_other hao (ha T (List.mem_of_getElem? hT))
end
/-- the table from the back, filled from row lo on, and in the row before from column co on -/
def TabIs (e : Nat → Nat → Bool) (nr nc : Nat) (R : Nat → List Int) (lo co : Nat) : Prop :=
  (∀ q, q ≤ nr → (R q).length = nc + 1) ∧ ∀ q c, q ≤ nr → c ≤ nc → (lo ≤ q ∨ (lo = q + 1 ∧ co ≤ c)) → (R q).getD c 0 = DD e (nr - q) (nc - c)
theorem TabIs.store {e : Nat → Nat → Bool} {nr nc : Nat} {R : Nat → List Int} {lo co : Nat} {v : Int} (h : TabIs e nr nc R (lo + 1) (co + 1)) (hlo : lo ≤ nr) (hco : co ≤ nc) (hv : v = DD e (nr - lo) (nc - co)) :
    TabIs e nr nc (fun q => if q = lo then (R lo).set co v else R q) (lo + 1) co := by
  refine ⟨fun q hq => ?_, fun q c hq hc hh => ?_⟩
  · dsimp only
    split
    · rw [List.length_set]; exact h.1 lo hlo
    · exact h.1 q hq
  · dsimp only
    split
    · next e1 =>
      subst e1
      rw [getD_set (by rw [h.1 q hq]; omega)]
      split
      · next e2 => subst e2; exact hv
      · next e2 => exact h.2 q c hq hc (by omega)
    · next e1 => exact h.2 q c hq hc (by omega)
theorem TabIs.row {e : Nat → Nat → Bool} {nr nc : Nat} {R : Nat → List Int} {lo : Nat} (h : TabIs e nr nc R (lo + 1) 0) : TabIs e nr nc R lo (nc + 1) :=
  ⟨h.1, fun q c hq hc hh => h.2 q c hq hc (by omega)⟩
theorem DD_edge (e : Nat → Nat → Bool) {a b : Nat} (h : a = 0 ∨ b = 0) : DD e a b = (a : Int) + b := by
  rcases h with rfl | rfl
  · rw [DD_zero]; simp
  · rw [DD_left]; simp
theorem zeros_row {vs : List Value} {n : Nat} (h : IntsAre vs (List.replicate ((n : Int) + 1).toNat [(0 : Int)]).flatten) : IntsAre vs (List.replicate (n + 1) 0) := by
  have e : ((n : Int) + 1).toNat = n + 1 := by omega
  rw [e, flat_zeros] at h
  exact h
theorem off1_ne {D : Addr} : ∀ {l : List (Addr × Obj)}, LCg.Off1 D l → ∀ p ∈ l, p.1 ≠ D
  | [], _, _, h => nomatch h
  | _ :: _, x, p, h => by
    rcases List.mem_cons.mp h with rfl | h
    · exact x.1
    · exact off1_ne x.2 p h
theorem getD_ok {ds : List Dat} (h : ∀ d ∈ ds, kqdOk 8 d = true) (i : Nat) : kqdOk 8 (ds.getD i .none) = true := by
  rcases Nat.lt_or_ge i ds.length with hi | hi
  · rw [List.getD_eq_getElem?_getD, List.getElem?_eq_getElem hi]
    exact h _ (List.getElem_mem hi)
  · rw [List.getD_eq_getElem?_getD, List.getElem?_eq_none hi]; rfl
theorem tab_len {e : Nat → Nat → Bool} {nr nc : Nat} {R : Nat → List Int} {lo co : Nat} (h : TabIs e nr nc R lo co) : ∀ q, q ≤ nr → (R q).length = nc + 1 := h.1
open Classical in
theorem far_val {ds es : List Dat} {R : Nat → List Int} {i j : Nat} {r z : Int} (hi : i < ds.length + 1) (hj : j < es.length + 1) (hi0 : (ds.length : Int) + i * -1 ≠ ds.length) (hj0 : (es.length : Int) + j * -1 ≠ es.length)
    (hTab : TabIs (fun r c => decide (ds.getD (ds.length - 1 - r) .none = es.getD (es.length - 1 - c) .none)) ds.length es.length R (ds.length - i + 1) (es.length + 1 - j))
    (hz : z = if ds.getD ((ds.length : Int) + i * -1).toNat .none = es.getD ((es.length : Int) + j * -1).toNat .none then 0 else 1)
    (hr : r = min (min ((R ((ds.length : Int) + i * -1 + 1).toNat).getD ((es.length : Int) + j * -1).toNat 0 + 1) ((R ((ds.length : Int) + i * -1).toNat).getD ((es.length : Int) + j * -1 + 1).toNat 0 + 1)) ((R ((ds.length : Int) + i * -1 + 1).toNat).getD ((es.length : Int) + j * -1 + 1).toNat 0 + z)) :
    r = DD (fun r c => decide (ds.getD (ds.length - 1 - r) .none = es.getD (es.length - 1 - c) .none)) (ds.length - ((ds.length : Int) + i * -1).toNat) (es.length - ((es.length : Int) + j * -1).toNat) := by
  obtain ⟨i', rfl⟩ : ∃ i', i = i' + 1 := ⟨i - 1, by omega⟩
  obtain ⟨j', rfl⟩ : ∃ j', j = j' + 1 := ⟨j - 1, by omega⟩
  have e1 : ((ds.length : Int) + (i' + 1 : Nat) * -1).toNat = ds.length - 1 - i' := by omega
  have e2 : ((es.length : Int) + (j' + 1 : Nat) * -1).toNat = es.length - 1 - j' := by omega
  have e3 : ((ds.length : Int) + (i' + 1 : Nat) * -1 + 1).toNat = ds.length - i' := by omega
  have e4 : ((es.length : Int) + (j' + 1 : Nat) * -1 + 1).toNat = es.length - j' := by omega
  rw [e1, e2, e3, e4] at hr
  rw [e1, e2] at hz ⊢
  have f1 : ds.length - (ds.length - 1 - i') = i' + 1 := by omega
  have f2 : es.length - (es.length - 1 - j') = j' + 1 := by omega
  have f3 : ds.length - (ds.length - i') = i' := by omega
  have f4 : es.length - (es.length - j') = j' := by omega
  rw [hTab.2 (ds.length - i') (es.length - 1 - j') (by omega) (by omega) (by omega), hTab.2 (ds.length - 1 - i') (es.length - j') (by omega) (by omega) (by omega), hTab.2 (ds.length - i') (es.length - j') (by omega) (by omega) (by omega), f1, f2, f3, f4] at hr
  rw [f1, f2, DD_step, hr, hz]
  simp only [decide_eq_true_eq]
  omega
theorem far_store {n m : Nat} {e : Nat → Nat → Bool} {R : Nat → List Int} {i j : Nat} {v : Int} (hi : i < n + 1) (hj : j < m + 1) (hTab : TabIs e n m R (n - i + 1) (m + 1 - j))
    (hv : v = DD e (n - ((n : Int) + i * -1).toNat) (m - ((m : Int) + j * -1).toNat)) :
    TabIs e n m (fun q => if q = ((n : Int) + i * -1).toNat then (R ((n : Int) + i * -1).toNat).set ((m : Int) + j * -1).toNat v else R q) (n - i + 1) (m + 1 - (j + 1)) := by
  have e1 : ((n : Int) + i * -1).toNat = n - i := by omega
  have e2 : ((m : Int) + j * -1).toNat = m - j := by omega
  rw [e1, e2] at hv ⊢
  have e3 : m + 1 - (j + 1) = m - j := by omega
  have e4 : m + 1 - j = (m - j) + 1 := by omega
  rw [e3]
  rw [e4] at hTab
  exact hTab.store (by omega) (by omega) hv
theorem far_edge {n m : Nat} {e : Nat → Nat → Bool} {i j : Nat} (hi : i < n + 1) (hj : j < m + 1) (h : (n : Int) + i * -1 = n ∨ (m : Int) + j * -1 = m) :
    (n : Int) - ((n : Int) + i * -1) + m - ((m : Int) + j * -1) = DD e (n - ((n : Int) + i * -1).toNat) (m - ((m : Int) + j * -1).toNat) := by
  have e1 : ((n : Int) + i * -1).toNat = n - i := by omega
  have e2 : ((m : Int) + j * -1).toNat = m - j := by omega
  rw [e1, e2, DD_edge e (by omega)]
  omega
theorem split_own (own nx2 : List (Addr × Obj)) : ∃ nx' : List (Addr × Obj), (∀ p ∈ nx', p ∈ nx2) ∧ OwnOff own (nx'.map (·.1)) ∧ ∀ a o, (∀ p ∈ own, p.1 ≠ a) → (a, o) ∈ nx2 → (a, o) ∈ nx' := by
  refine ⟨nx2.filter fun p => own.all fun q => q.1 != p.1, fun p hp => (List.mem_filter.mp hp).1, ?_, ?_⟩
  · intro p hp b hb
    obtain ⟨q, hq, rfl⟩ := List.mem_map.mp hb
    have := (List.mem_filter.mp hq).2
    rw [List.all_eq_true] at this
    simpa using this p hp
  · intro a o h1 h2
    refine List.mem_filter.mpr ⟨h2, ?_⟩
    rw [List.all_eq_true]
    intro q hq
    simpa using h1 q hq
open Classical in
theorem far_val0 {ds es : List Dat} {R : Nat → List Int} {i j : Nat} {r : Int} (hi : i < ds.length + 1) (hj : j < es.length + 1) (hi0 : (ds.length : Int) + i * -1 ≠ ds.length) (hj0 : (es.length : Int) + j * -1 ≠ es.length)
    (hTab : TabIs (fun r c => decide (ds.getD (ds.length - 1 - r) .none = es.getD (es.length - 1 - c) .none)) ds.length es.length R (ds.length - i + 1) (es.length + 1 - j))
    (hz : ds.getD ((ds.length : Int) + i * -1).toNat .none = es.getD ((es.length : Int) + j * -1).toNat .none)
    (hr : r = min (min ((R ((ds.length : Int) + i * -1 + 1).toNat).getD ((es.length : Int) + j * -1).toNat 0 + 1) ((R ((ds.length : Int) + i * -1).toNat).getD ((es.length : Int) + j * -1 + 1).toNat 0 + 1)) ((R ((ds.length : Int) + i * -1 + 1).toNat).getD ((es.length : Int) + j * -1 + 1).toNat 0 + 0)) :
    r = DD (fun r c => decide (ds.getD (ds.length - 1 - r) .none = es.getD (es.length - 1 - c) .none)) (ds.length - ((ds.length : Int) + i * -1).toNat) (es.length - ((es.length : Int) + j * -1).toNat) :=
  far_val hi hj hi0 hj0 hTab (if_pos hz).symm hr
open Classical in
theorem far_val1 {ds es : List Dat} {R : Nat → List Int} {i j : Nat} {r : Int} (hi : i < ds.length + 1) (hj : j < es.length + 1) (hi0 : (ds.length : Int) + i * -1 ≠ ds.length) (hj0 : (es.length : Int) + j * -1 ≠ es.length)
    (hTab : TabIs (fun r c => decide (ds.getD (ds.length - 1 - r) .none = es.getD (es.length - 1 - c) .none)) ds.length es.length R (ds.length - i + 1) (es.length + 1 - j))
    (hz : ¬ ds.getD ((ds.length : Int) + i * -1).toNat .none = es.getD ((es.length : Int) + j * -1).toNat .none)
    (hr : r = min (min ((R ((ds.length : Int) + i * -1 + 1).toNat).getD ((es.length : Int) + j * -1).toNat 0 + 1) ((R ((ds.length : Int) + i * -1).toNat).getD ((es.length : Int) + j * -1 + 1).toNat 0 + 1)) ((R ((ds.length : Int) + i * -1 + 1).toNat).getD ((es.length : Int) + j * -1 + 1).toNat 0 + 1)) :
    r = DD (fun r c => decide (ds.getD (ds.length - 1 - r) .none = es.getD (es.length - 1 - c) .none)) (ds.length - ((ds.length : Int) + i * -1).toNat) (es.length - ((es.length : Int) + j * -1).toNat) :=
  far_val hi hj hi0 hj0 hTab (if_neg hz).symm hr
theorem rowsAt_nil {nx : List (Addr × Obj)} {R : Nat → List Int} : RowsAt nx [] R := fun i T e => by simp at e
end Mine
end
-- F1
theorem Mine.off_F1 : True := by
  w_top off
  trivial
section
open PySem PySem.W PySem.Spec PySem.Calls PyProof.Rows PyProof.V
set_option maxRecDepth 100000
set_option maxHeartbeats 8000000
namespace Mine
local macro_rules | `(tactic| k_room) => `(tactic| ktr_room)
local macro_rules | `(tactic| k_units) => `(tactic| ktr_units)
local macro_rules | `(tactic| k_mem) => `(tactic| assumption)
local macro_rules | `(tactic| k_steps) => `(tactic| repeat' ((fail_if_success (with_reducible show wpAny _ _ (exec (PySem.Stmt.For _ _ _ _ _) _) _ _ _)); (fail_if_success (with_reducible show wpAny _ _ (pyIter _) (fun it s₂ => LoopAtV _ _ _ _ _ _ _ _ _ it s₂) _ _)); (fail_if_success (with_reducible show LCg.CompSrc _ _ _ _ _ _ _ _ _ _ _ _ _ _)); (fail_if_success (with_reducible show LCg.CompEnd _ _ _ _ _ _ _ _ _ _ _ _ _ _)); (fail_if_success (with_reducible show LCg.FinA _ _ _ _ _ _ _ _)); first | (k_unfold; (try dsimp only)) | (k_end; wrow_close) | walk1 | (dsimp only; walk1) | (leave1; walk_say "STEP leave1"; try dsimp only) | fail "no step"))
local macro_rules | `(tactic| kqd_in) => `(tactic| first | assumption | (refine' DatIn.mono ?s ?h; (case h => assumption); (case s => (intro p9 h9; repeat (first | exact h9 | refine List.Mem.tail _ ?_)))))
local macro_rules | `(tactic| walk_at "call builtin:len") => `(tactic| (k_here; k_dflt (refine' seq_len ?N ?hS ?hl ?_; (case N => k_asm); (case hS => first | assumption | (refine' SeqIn.mono ?s ?h; (case h => assumption); (case s => (intro p9 h9; repeat (first | exact h9 | refine List.Mem.tail _ ?_))))); (case hl => assumption); k_whole)))
local macro_rules | `(tactic| walk_at "subscriptTail") => `(tactic| (k_here; k_dflt (refine' seq_item ?N ?hS ?hl ?h0 ?h1 ?_ ?hs ?ht; (case N => k_asm); (case hS => first | assumption | (refine' SeqIn.mono ?s ?h; (case h => assumption); (case s => (intro p9 h9; repeat (first | exact h9 | refine List.Mem.tail _ ?_))))); (case hl => assumption); (case h0 => omega); (case h1 => omega); (case hs => with_unfolding_all rfl); (case ht => (intro _; with_unfolding_all rfl)); k_whole); intro v' tk' dI'))
local macro_rules | `(tactic| walk_at "subscriptTail") => `(tactic| (k_here; k_dflt (refine' rows_row ?hl ?N ?hm ?h0 ?h1 ?hf ?_ ?hs ?ht; (case hl => assumption); (case N => k_asm); (case hm => assumption); (case h0 => omega); (case h1 => omega); (case hf => assumption); (case hs => with_unfolding_all rfl); (case ht => (intro _; with_unfolding_all rfl)); k_whole)))
local macro_rules | `(tactic| walk_at "subscriptTail") => `(tactic| (k_here; k_dflt (refine' rows_get ?hl ?hR ?N ?hlen ?h0 ?h1 ?g0 ?g1 ?hf ?_ ?hs; (case hl => assumption); (case N => k_asm); (case hR => assumption); (case hlen => exact tab_len (by assumption)); (case h0 => omega); (case h1 => omega); (case g0 => omega); (case g1 => omega); (case hf => assumption); (case hs => with_unfolding_all rfl); k_whole); intro tg'))
local macro_rules | `(tactic| walk_at "compareOp Eq") => `(tactic| (k_here; k_dflt (refine' item_eq ?N ?ha ?hb ?ka ?kb ?hu ?_; (case N => k_asm); (case ha => assumption); (case hb => assumption); (case ka => exact getD_ok (by assumption) _); (case kb => exact getD_ok (by assumption) _); (case hu => ktr_units); k_whole)))
local macro_rules | `(tactic| walk_at "call builtin:min") => `(tactic| (k_here; (with_reducible show wpAny _ _ (call (Value.builtin "min") [Value.int _ _, Value.int _ _, Value.int _ _]) _ _ _); k_dflt (refine' min3_K ?F ?N ?hh ?_; (case F => k_asm); (case N => k_asm); (case hh => exact rfl); k_whole); intro h' tk' r9 t' F' N' hr9))
local macro_rules | `(tactic| k_all) => `(tactic| exact allNe_succ (by assumption))
open Classical in
theorem far_walk {prog : Program} {w : World} {p : Program} {loose : List Str} {mean : ExcName → Option Value} {mg mb : Str → Option Value} (news : List (Addr × Obj)) (v1 v2 : Value) (ds es : List Dat)
   (hS1 : SeqIn news v1 ds) (hS2 : SeqIn news v2 es) (hlx : ds.length ≤ 6) (hly : es.length ≤ 6) (hok1 : ∀ d ∈ ds, kqdOk 8 d = true) (hok2 : ∀ d ∈ es, kqdOk 8 d = true) :
   Claim 10 prog w (hd.heap_39 w.params) p loose mean mg mb 196 news [v1, v2] (fun t => .int (DD (fun r c => decide (ds.getD (ds.length - 1 - r) .none = es.getD (es.length - 1 - c) .none)) ds.length es.length) t) := by
  intro dp un gd cn cs a ccd cl outer A₀ base h₀ L m s Q E B F X N T hk hd hu hret
  obtain ⟨ck, c2, c3, c4, c5⟩ := cs
  cases hk
  w_strict k_steps
  rename IsRange _ _ _ _ _ _ _ _ => RG
  rename Fr _ _ _ _ => FL
  rename News _ _ _ (_ :: _) => NL
  rename Obj.data _ = Data.cell (some _) => hcel
  rename (∀ p ∈ news, p.1 < _) => hlo
  rename _ ∧ AllLt _ news => hlD
  have NL2 := fun p hp => NL p (.tail _ hp)
  refine LCg.CompSrc.range (by rfl) FL NL2 RG (rsmall_0 hlx) (rsize_0 hlx) (by first | size_fits | (rw [sizeLine_eq]; omega)) ?_
  intro g
  refine comp_invN (fun n0 i ys nx => ∃ Ts : List Addr, ys = Ts.map Value.ref ∧ Ts.length = i ∧ Ts.Nodup ∧ (∀ T ∈ Ts, ∀ p ∈ n0, p.1 ≠ T) ∧ (∀ T ∈ Ts, ∃ o, (T, o) ∈ nx) ∧ (∀ p ∈ n0, p ∈ nx) ∧ RowsAt nx Ts (fun _ => List.replicate (es.length + 1) 0)) ?_ ?_ ?_
  · rintro i v I oI C oC D m₂ ys nx h tk E' hi ⟨t, rfl⟩ ⟨Ts, rfl, hTl, hTn, hTo, hTx, hsub, hrows⟩ hoC hx F' N' off ne
    have hcm := hsub _ (.head _)
    clear NL NL2 FL
    w_strict k_steps
    rename Fr _ _ _ _ => FL
    rename News _ _ _ (_ :: _ :: (I, oI) :: _) => NL
    rename IntsAre _ _ => hI1
    rename _ ∧ _ ∧ _ ∧ _ ∧ AllLt _ nx => hlt
    obtain ⟨r1, r2, r3, r4, r5⟩ := rows_step (n := 0) (R := fun _ => List.replicate (es.length + 1) 0) hsub hTn hTo hTx hrows hlt.2.2.2.2 (zeros_row hI1)
    have hrepl : (((es.length : Int) + 1).toNat) = es.length + 1 := by omega
    exact compEnd_new FL NL hlt.2.1 hlt.2.2.1 hlt.2.2.2.1 off ⟨Ts ++ [_], by simp, by simp [hTl], r1, r2, r3, r4, r5⟩
  · rintro ys nx ⟨Ts, rfl, hTl, hTn, hTo, hTx, hsub, hrows⟩
    clear NL NL2 FL
    w_strict k_steps
    intro D' h' tk' F' N' hoff
    dsimp only
    have hTD : ∀ T ∈ Ts, D' ≠ T := fun T hT => by
      obtain ⟨o, ho⟩ := hTx T hT
      exact fun e => off1_ne hoff _ ho e.symm
    w_strict k_steps
    rename Fr _ _ _ _ => FL
    w_strict (refine For_invVF FL (by rfl) (by rfl) ?_)
    w_strict k_steps
    rename IsRange _ _ _ _ (-1) _ _ _ => RG
    rename Fr _ _ _ _ => FL
    rename News _ _ _ (_ :: nx) => NL
    w_strict (refine range_loopN (n := ds.length + 1) (fun n0 i m₁ nx1 => (∀ p ∈ ([("one", v1), ("other", v2), ("rows", .ref D')] : List (Str × Value)), m₁ p.1 = some p.2) ∧ (∃ tn, m₁ "n" = some (.int ds.length tn)) ∧ (∀ a o, (∀ T ∈ Ts, a ≠ T) → (a, o) ∈ n0 → (a, o) ∈ nx1) ∧ ∃ R, RowsAt nx1 Ts R ∧ TabIs (fun r c => decide (ds.getD (ds.length - 1 - r) .none = es.getD (es.length - 1 - c) .none)) ds.length es.length R (ds.length + 1 - i) (es.length + 1)) (by rfl) RG (rsmall_down hlx) (rsize_down hlx) FL NL ?_ ?_ ?_)
    · refine ⟨?_, ⟨_, by with_unfolding_all rfl⟩, fun a o _ h => h, _, hrows.mono fun p hp => .tail _ hp, fun q hq => by simp, fun q c hq hc hh => by omega⟩
      (repeat (first | exact List.forall_mem_nil _ | refine List.forall_mem_cons.mpr ⟨by with_unfolding_all rfl, ?_⟩))
    · rintro i ti m₁ nx1 hh tk own hi hoff1 ⟨hps, ⟨tn, hn⟩, hsub1, R, hR, hTab⟩ F₁ N₁
      clear FL NL
      have F₂ := fr_named ([("one", v1), ("other", v2), ("rows", .ref D'), ("n", .int ds.length tn)] : List (Str × Value)) (List.forall_mem_cons.mpr ⟨hps _ (by simp), List.forall_mem_cons.mpr ⟨hps _ (by simp), List.forall_mem_cons.mpr ⟨hps _ (by simp), List.forall_mem_cons.mpr ⟨hn, List.forall_mem_nil _⟩⟩⟩⟩) F₁
      clear F₁
      have hcm := List.mem_append_left own (hsub1 _ _ (fun T hT => hTo T hT _ (.head _)) (.tail _ (hsub _ (.head _))))
      have hDm : (D', W.listOf (Ts.map Value.ref).toArray (Ts.map Value.ref).length) ∈ nx1 ++ own := List.mem_append_left own (hsub1 _ _ hTD (.head _))
      w_strict k_steps
      rename Fr _ _ _ _ => FL
      w_strict (refine For_invVF FL (by rfl) (by rfl) ?_)
      w_strict k_steps
      rename IsRange _ _ _ _ (-1) _ _ _ => RG
      rename Fr _ _ _ _ => FL
      rename News _ _ _ _ => NL
      w_strict (refine range_loopN (n := es.length + 1) (fun n1 j m₁ nx2 => (∀ p ∈ ([("one", v1), ("other", v2), ("rows", .ref D'), ("n", .int ds.length tn), ("i", .int (ds.length + i * (-1)) ti)] : List (Str × Value)), m₁ p.1 = some p.2) ∧ (∀ a o, (∀ T ∈ Ts, a ≠ T) → (a, o) ∈ n1 → (a, o) ∈ nx2) ∧ ∃ R, RowsAt nx2 Ts R ∧ TabIs (fun r c => decide (ds.getD (ds.length - 1 - r) .none = es.getD (es.length - 1 - c) .none)) ds.length es.length R (ds.length - i + 1) (es.length + 1 - j)) (by rfl) RG (rsmall_down hly) (rsize_down hly) FL NL ?_ ?_ ?_)
      · refine ⟨?_, fun a o _ h => h, _, hR.mono fun p hp => List.mem_append_left _ hp, ?_⟩
        · (repeat (first | exact List.forall_mem_nil _ | refine List.forall_mem_cons.mpr ⟨by with_unfolding_all rfl, ?_⟩))
        · have e1 : ds.length + 1 - i = ds.length - i + 1 := by omega
          rw [e1] at hTab
          exact hTab
      · rintro j tj m₂ nx2 hh2 tk2 own2 hj hoff2 ⟨hps2, hsub2, R2, hR2, hTab2⟩ F₂ N₂
        clear FL NL
        have F₃ := fr_named ([("one", v1), ("other", v2), ("rows", .ref D'), ("n", .int ds.length tn), ("i", .int (ds.length + i * (-1)) ti)] : List (Str × Value)) hps2 F₂
        clear F₂
        have hcm2 := List.mem_append_left own2 (hsub2 _ _ (fun T hT => hTo T hT _ (.head _)) hcm)
        have hDm2 := List.mem_append_left own2 (hsub2 _ _ hTD hDm)
        have hR3 : RowsAt (nx2 ++ own2) Ts R2 := hR2.mono fun p hp => List.mem_append_left _ hp
        have hS1R : SeqIn (nx2 ++ own2) v1 ds := hS1.mono fun p hp => List.mem_append_left _ (hsub2 _ _ (fun T hT => hTo T hT _ (.tail _ hp)) (List.mem_append_left _ (hsub1 _ _ (fun T hT => hTo T hT _ (.tail _ hp)) (.tail _ (hsub _ (.tail _ hp))))))
        have hS2R : SeqIn (nx2 ++ own2) v2 es := hS2.mono fun p hp => List.mem_append_left _ (hsub2 _ _ (fun T hT => hTo T hT _ (.tail _ hp)) (List.mem_append_left _ (hsub1 _ _ (fun T hT => hTo T hT _ (.tail _ hp)) (.tail _ (hsub _ (.tail _ hp))))))
        w_strict k_steps
        all_goals (
          refine rows_set (by assumption) hTl hTn hR2 (by assumption) (tab_len hTab2) (by omega) (by omega) (by omega) (by omega) hly hoff2 ?_
          intro h9 nx9 F9 N9 hoff9 hR9 hsub9
          w_strict k_steps
          refine InvEndG.intro (nx := nx9) (by assumption) (by assumption) ⟨?_, fun a o ha hao => hsub9 a o ha (hsub2 a o ha hao), _, hR9, ?_⟩ hoff9 (fun p hp => List.mem_append_left _ hp) (fun p hp => List.mem_append_right _ hp)
          · (repeat (first | exact List.forall_mem_nil _ | refine List.forall_mem_cons.mpr ⟨by with_unfolding_all rfl, ?_⟩))
          · refine far_store hi hj hTab2 ?_
            first
              | exact far_edge hi hj (Or.inl (by assumption))
              | exact far_edge hi hj (Or.inr (by assumption))
              | exact far_val0 hi hj (by assumption) (by assumption) hTab2 (by assumption) (by assumption)
              | exact far_val1 hi hj (by assumption) (by assumption) hTab2 (by assumption) (by assumption))
      · rintro m₂ nx2 hh2 tk2 ⟨hps2, hsub2, R2, hR2, hTab2⟩ F₂ N₂
        clear FL NL
        have F₃ := fr_named0 ([("one", v1), ("other", v2), ("rows", .ref D'), ("n", .int ds.length tn), ("i", .int (ds.length + i * (-1)) ti)] : List (Str × Value)) hps2 F₂
        clear F₂
        obtain ⟨nx3, hs3, hoff3, hin3⟩ := split_own own nx2
        w_strict k_steps
        have hown : ∀ T ∈ Ts, ∀ p ∈ own, p.1 ≠ T := fun T hT p hp => by
          obtain ⟨k, hk⟩ := List.getElem?_of_mem hT
          obtain ⟨vs, nv, hm, _⟩ := hR k T hk
          exact hoff1 p hp T (List.mem_map.mpr ⟨_, hm, rfl⟩)
        refine InvEndG.intro (nx := nx3) (by assumption) (by assumption) ⟨?_, ⟨tn, by with_unfolding_all rfl⟩, fun a o ha hao => ?_, R2, fun k T hk => ?_, ?_⟩ hoff3 hs3 (fun p hp => hsub2 p.1 p.2 (fun T hT => hown T hT p hp) (List.mem_append_right _ hp))
        · (repeat (first | exact List.forall_mem_nil _ | refine List.forall_mem_cons.mpr ⟨by with_unfolding_all rfl, ?_⟩))
        · have h1 := hsub1 a o ha hao
          exact hin3 a o (fun p hp => hoff1 p hp a (List.mem_map.mpr ⟨_, h1, rfl⟩)) (hsub2 a o ha (List.mem_append_left _ h1))
        · obtain ⟨vs, nv, hm, hi'⟩ := hR2 k T hk
          exact ⟨vs, nv, hin3 _ _ (fun p hp => hown T (List.mem_of_getElem? hk) p hp) hm, hi'⟩
        · have e1 : ds.length + 1 - (i + 1) = ds.length - i := by omega
          have e2 : es.length + 1 - (es.length + 1) = 0 := by omega
          rw [e2] at hTab2
          rw [e1]
          exact hTab2.row
    · rintro m₁ nx1 hh tk ⟨hps, ⟨tn, hn⟩, hsub1, R, hR, hTab⟩ F₁ N₁
      clear FL NL
      have F₂ := fr_named0 ([("one", v1), ("other", v2), ("rows", .ref D'), ("n", .int ds.length tn)] : List (Str × Value)) (List.forall_mem_cons.mpr ⟨hps _ (by simp), List.forall_mem_cons.mpr ⟨hps _ (by simp), List.forall_mem_cons.mpr ⟨hps _ (by simp), List.forall_mem_cons.mpr ⟨hn, List.forall_mem_nil _⟩⟩⟩⟩) F₁
      clear F₁
      have hDm : (D', W.listOf (Ts.map Value.ref).toArray (Ts.map Value.ref).length) ∈ nx1 := hsub1 _ _ hTD (.head _)
      w_strict k_steps
      exact cb_retI hret (hTab.2 0 0 (Nat.zero_le _) (Nat.zero_le _) (.inl (by omega))) (by k_asm) (cb_drop (by k_asm) fun p hp => hsub1 p.1 p.2 (fun T hT => hTo T hT p (.tail _ hp)) (.tail _ (hsub p (.tail _ hp))))
  · exact ⟨[], rfl, rfl, List.nodup_nil, fun T hT => (nomatch hT), fun T hT => (nomatch hT), fun p hp => hp, rowsAt_nil⟩
end Mine
end
local macro_rules | `(tactic| walk_at "blank 11") => `(tactic| fail "blank")
local macro_rules | `(tactic| walk_at "blank 12") => `(tactic| fail "blank")
local macro_rules | `(tactic| walk_at "blank 13") => `(tactic| fail "blank")
local macro_rules | `(tactic| walk_at "blank 14") => `(tactic| fail "blank")
local macro_rules | `(tactic| walk_at "blank 15") => `(tactic| fail "blank")
local macro_rules | `(tactic| walk_at "blank 16") => `(tactic| fail "blank")
local macro_rules | `(tactic| walk_at "blank 17") => `(tactic| fail "blank")
-- X1
theorem Mine.off_X1 : True := by
  w_top off
  trivial
section
open PySem PySem.W PySem.Spec PySem.Calls PyProof.Rows PyProof.V
set_option maxRecDepth 100000
namespace Mine
/-- a def's end where an exception may have turned the slots of the frames around it -/
def LvS (fs : List Addr) (A₀ : Around) (base : Heap) (outer : List Env) (h₀ : Heap) (L : Addr) (m : Str → Option Value) (g : Heap) (R : Result → Shared → Prop) (v : Value) (s' : Shared) : Prop :=
  ∃ g' L' m' news', KtsTurn fs g g' ∧ Fr g' L' s'.heap m' ∧ News g' L' s'.heap news' ∧
    ∀ h₀', KtsTurn (outer.filterMap (·.frame)) h₀ h₀' → Below A₀ base outer h₀' → Fr h₀' L s'.heap m → News h₀' L s'.heap news' → R (.ok (.ret v)) s'
theorem frames_mem {env : Env} {outer : List Env} {L b : Addr} (hf : env.frame = some L) (hm : b ∈ (env :: outer).filterMap (·.frame)) : b = L ∨ b ∈ outer.filterMap (·.frame) := by
  rw [List.filterMap_cons, hf] at hm
  exact List.mem_cons.mp hm
section
variable {prog : Program} {w : World} {A₀ A : Around} {s : Shared} {base h₀ : Heap} {outer : List Env} {L : Addr} {m : Str → Option Value} {env : Env} {news : List (Addr × Obj)} {K : Frag} {p : Program} {loose : List Str} {mean : ExcName → Option Value} {mg mb : Str → Option Value}
  {R : Result → Shared → Prop} {name qual : Str} {params : Arguments} {body : List Stmt} {scope : Scope} {dV kV doc pm cdv ct oc : Value} {an od : Option Addr} {osl : Array (Option Value)} {f : Addr} {args : Args}
theorem ground_S (B : Below A₀ base outer h₀) (F : Fr h₀ L s.heap m) (N : News h₀ L s.heap news) (D : KtsDicts (outer.filterMap (·.frame)) h₀) (hA : A.frames = some (env :: outer)) (hf : env.frame = some L) (hke : env.scope.kind = .function) :
    Fr h₀ L (hideAll s.heap (news.map (·.1))) m ∧ Below A base (env :: outer) (hideAll s.heap (news.map (·.1))) ∧ h₀.StaysIn (hideAll s.heap (news.map (·.1))) ∧ KtsDicts ((env :: outer).filterMap (·.frame)) (hideAll s.heap (news.map (·.1))) ∧
      ∀ v s', LvS ((env :: outer).filterMap (·.frame)) A₀ base outer h₀ L m (hideAll s.heap (news.map (·.1))) R v s' → R (.ok (.ret v)) s' := by
  obtain ⟨FG, BG, st, _⟩ := groundX (R := R) B F N hA hf hke
  refine ⟨FG, BG, st, fun b hb => ?_, fun v s' hl => ?_⟩
  · rcases frames_mem hf hb with rfl | hb
    · obtain ⟨oL, es, ep, hL, hLd, _⟩ := FG.ns
      exact ⟨oL, es, ep, hL, hLd⟩
    · obtain ⟨o, es, n, ho, hd⟩ := D b hb
      exact ⟨o, es, n, st b o ho, hd⟩
  · obtain ⟨g', L', m', news', T', F', N', k⟩ := hl
    obtain ⟨oL, es, ep, hLg, hLd, hLk, hLf⟩ := FG.ns
    have nL₀ : h₀.get? L = none := kts_self F
    obtain ⟨sl, hs⟩ := T'.up hLg
    obtain ⟨T₁, S₁⟩ := kts_turn_at (h := s'.heap) (fs := outer.filterMap (·.frame)) (g := h₀)
      (fun b hb => by
        obtain ⟨_, o, ho', _⟩ := B.frames.mem hb
        exact ⟨o, ho'⟩)
      (fun b o e nmem => F'.keep b o (T'.other b o (st b o e) (fun q => by
        rcases frames_mem hf q with z | z
        · rw [z, nL₀] at e; cases e
        · exact nmem z)))
      (fun b o e hm => by
        obtain ⟨sl', hs'⟩ := T'.up (st b o e)
        exact ⟨sl', F'.keep _ _ hs'⟩)
    have B₃ : Below A₀ base outer (ktsHeap s'.heap (outer.filterMap (·.frame)) h₀) := ⟨B.stack, fun b o e => T₁.other b o (B.stays b o e) (fun hm => by
      rw [(B.frames.mem hm).1] at e
      cases e), B.frames.of_keeps fun b o e _ => by
      obtain ⟨sl', hs'⟩ := T₁.up e
      exact ⟨_, hs', rfl⟩⟩
    refine k _ T₁ B₃ ⟨⟨_, es, ep, F'.keep _ _ hs, hLd, hLk, hLf⟩, S₁, by rw [T₁.size]; exact F.above⟩ fun p hp => ⟨(N' p hp).1, fun q => ?_, ?_⟩
    · have := (N' p hp).2.2; rw [q, hs] at this; cases this
    · refine T₁.none_ _ ?_
      cases q : h₀.get? p.1 with
      | none => rfl
      | some o =>
        obtain ⟨sl', hs'⟩ := T'.up (st _ _ q)
        have := (N' p hp).2.2
        rw [hs'] at this
        cases this
/-- a def with a star parameter is entered -/
theorem rest_S {vs : List Value} {g₁ : Addr → Option (List (Str × Value))} {binds : Addr → List (Str × Value)}
    (B : Below A₀ base outer h₀) (F : Fr h₀ L s.heap m) (X₀ : K.In h₀) (N : News h₀ L s.heap news) (T : Top p loose mean mg mb h₀) (D : KtsDicts (outer.filterMap (·.frame)) h₀) (hA : A.frames = some (env :: outer)) (hf : env.frame = some L) (hke : env.scope.kind = .function)
    (ho : K.lookup f = some ⟨oc, od, .func (fnOf name qual params body scope dV kV doc pm an cdv ct), osl⟩) (hcd : codeIn K cdv qual = true) (hroom : A.depth < recursionLimit)
    (hv : args.pos.drop (params.posonlyargs.length + params.args.length) = vs)
    (hp : peek1 K ⟨prog, w.params⟩ (bindArgs (fnOf name qual params body scope dV kV doc pm an cdv ct) args) = some (({ cls := .type "tuple", data := .seq vs.toArray } : Obj), g₁))
    (hg : ∀ D, g₁ D = some (binds D)) (hloc : ∀ D, ∀ y ∈ binds D, scope.names.lookup y.1 = some .local)
    (h : ∀ Dv g L' h₁, (∀ p ∈ news, p.1 < Dv) → Fr h₀ L g m → Fr g L' h₁ (fun y => (binds Dv).reverse.lookup y) → News g L' h₁ ((Dv, ({ cls := .type "tuple", data := .seq vs.toArray } : Obj)) :: news) → Below A base (env :: outer) g → K.In g → Top p loose mean mg mb g → KtsDicts ((env :: outer).filterMap (·.frame)) g →
      wpAny (model prog w) (A.deeper (envOf qual scope L' f cdv)) (execs body (envOf qual scope L' f cdv))
        (fun fl s' => LvS ((env :: outer).filterMap (·.frame)) A₀ base outer h₀ L m g R (match fl with | .ret v => v | _ => .none) s')
        (fun e s' => wpAny (model prog w) (A.deeper (envOf qual scope L' f cdv)) (leaving (envOf qual scope L' f cdv) e) (fun _ s'' => R (.error e) s'') (fun e' s'' => R (.error e') s'') s')
        { s with heap := h₁, toks := s.toks + (binds Dv).length })
    (hco : scope.isCoroutine = false) (hgen : scope.isGenerator = false) (hk : scope.kind = .function)
    (hcell : ∀ x ∈ scope.names, x.2 ≠ .cell) : codeAny (model prog w) A (.call (.ref f) args) R s := by
  have _ := hv
  refine codeAny_call_function (fd := fnOf name qual params body scope dV kV doc pm an cdv ct) (body := body) hroom ((X₀.keeps F.keep) _ _ ho) rfl hco hgen rfl (codeRec_of (X₀.keeps F.keep) hcd) ?_
  refine wp_of_peek1 (o := ({ cls := .type "tuple", data := .seq vs.toArray } : Obj)) F N (X₀.keeps F.keep) rfl (r := binds) (fun Dv h' F' N' l => ?_) _ g₁ hp hg
  obtain ⟨FG, BG, st, DG, lv⟩ := ground_S (R := R) (s := { s with heap := h' }) B F' N' D hA hf hke
  refine wpAny_newFunctionEnv hcell (hloc Dv) (fun h₁ hns hsb => ⟨(T.nolimit.keeps F'.keep).fresh _ hsb, codeAny_func ?_⟩) hk
  have hk₁ : ∀ b o, h'.get? b = some o → h₁.get? b = some o := fun b o e => hsb.extBut b o (Nat.ne_of_lt (Heap.lt_size e)) (Heap.get?_push_of_some _ e)
  show wpAny (model prog w) (A.deeper (envOf qual scope h'.objs.size f cdv)) (execs body (envOf qual scope h'.objs.size f cdv)) _ _ _
  exact wpAny_mono (h Dv _ h'.objs.size h₁ l FG ⟨hns, fun b o e => hk₁ b o (of_hideAll _ e), Nat.le_of_eq (hideAll_size _ _)⟩
    (fun p hp => ⟨hk₁ _ _ (N' p hp).1, Nat.ne_of_lt (Heap.lt_size (N' p hp).1), hideAll_none _ (List.mem_map_of_mem hp)⟩) BG (X₀.keeps st) (T.keeps st) DG) (fun fl s' hl => lv _ _ hl) fun _ _ y => y
/-- a def with plain parameters is entered -/
theorem plain_S {binds : List (Str × Value)}
    (B : Below A₀ base outer h₀) (F : Fr h₀ L s.heap m) (X₀ : K.In h₀) (N : News h₀ L s.heap news) (T : Top p loose mean mg mb h₀) (D : KtsDicts (outer.filterMap (·.frame)) h₀) (hA : A.frames = some (env :: outer)) (hf : env.frame = some L) (hke : env.scope.kind = .function)
    (ho : K.lookup f = some ⟨oc, od, .func (fnOf name qual params body scope dV kV doc pm an cdv ct), osl⟩) (hcd : codeIn K cdv qual = true) (hroom : A.depth < recursionLimit)
    (hbind : BindsTo s (fnOf name qual params body scope dV kV doc pm an cdv ct) args binds) (hloc : ∀ y ∈ binds, scope.names.lookup y.1 = some .local)
    (h : ∀ g L' h₁, Fr h₀ L g m → Fr g L' h₁ (fun y => binds.reverse.lookup y) → News g L' h₁ news → Below A base (env :: outer) g → K.In g → Top p loose mean mg mb g → KtsDicts ((env :: outer).filterMap (·.frame)) g →
      wpAny (model prog w) (A.deeper (envOf qual scope L' f cdv)) (execs body (envOf qual scope L' f cdv))
        (fun fl s' => LvS ((env :: outer).filterMap (·.frame)) A₀ base outer h₀ L m g R (match fl with | .ret v => v | _ => .none) s')
        (fun e s' => wpAny (model prog w) (A.deeper (envOf qual scope L' f cdv)) (leaving (envOf qual scope L' f cdv) e) (fun _ s'' => R (.error e) s'') (fun e' s'' => R (.error e') s'') s')
        { s with heap := h₁, toks := s.toks + binds.length })
    (hco : scope.isCoroutine = false) (hgen : scope.isGenerator = false) (hk : scope.kind = .function)
    (hcell : ∀ x ∈ scope.names, x.2 ≠ .cell) : codeAny (model prog w) A (.call (.ref f) args) R s := by
  obtain ⟨FG, BG, st, DG, lv⟩ := ground_S (R := R) B F N D hA hf hke
  have X := X₀.keeps F.keep
  refine codeAny_call_def (fd := fnOf name qual params body scope dV kV doc pm an cdv ct) (body := body) (binds := binds) hroom (X _ _ ho) rfl (T.nolimit.keeps F.keep) (codeRec_of X hcd) rfl hbind hcell hloc (fun h₁ hns hk₁ => ?_) hco hgen hk
  exact wpAny_mono (h _ s.heap.objs.size h₁ FG ⟨hns, fun b o e => hk₁ b o (of_hideAll _ e), Nat.le_of_eq (hideAll_size _ _)⟩
    (fun p hp => ⟨hk₁ _ _ (N p hp).1, Nat.ne_of_lt (Heap.lt_size (N p hp).1), hideAll_none _ (List.mem_map_of_mem hp)⟩) BG (X₀.keeps st) (T.keeps st) DG) (fun fl s' hl => lv _ _ hl) fun _ _ y => y
end
/-- what a call hands back where an exception may have been caught beneath -/
abbrev RetS (K : Frag) (p : Program) (loose : List Str) (mean : ExcName → Option Value) (mg mb : Str → Option Value) (A₀ : Around) (base : Heap) (outer : List Env) (h₀ : Heap) (L : Addr) (m : Str → Option Value) (news : List (Addr × Obj)) (s : Shared) (Q : Value → Shared → Prop) (R : Tok → Value) : Prop :=
  ∀ (t : Tok) (h' : Heap) (tk' : Nat) (h₀' : Heap), KtsTurn (outer.filterMap (·.frame)) h₀ h₀' → Below A₀ base outer h₀' → Fr h₀' L h' m → K.In h₀' → News h₀' L h' news → Top p loose mean mg mb h₀' → KtsDicts (outer.filterMap (·.frame)) h₀' → Q (R t) { s with heap := h', toks := tk' }
abbrev ClaimS (k : Nat) (prog : Program) (w : World) (K : Frag) (p : Program) (loose : List Str) (mean : ExcName → Option Value) (mg mb : Str → Option Value) (f : Addr) (news : List (Addr × Obj)) (vs : List Value) (R : Tok → Value) : Prop :=
  ∀ (dp un : Nat) (gd : Option (List Code)) (cn : Str) (cs : Scope) (a : Addr) (ccd : Value) (cl : List (Str × Addr)) (outer : List Env) (A₀ : Around) (base h₀ : Heap) (L : Addr) (m : Str → Option Value) (s : Shared) (Q E : Value → Shared → Prop),
    Below A₀ base outer h₀ → Fr h₀ L s.heap m → K.In h₀ → News h₀ L s.heap news → Top p loose mean mg mb h₀ → K.In base → Top p loose mean mg mb base → KtsDicts (outer.filterMap (·.frame)) h₀ → cs.kind = .function →
    dp + k < recursionLimit → un + 10 * k < cLine → RetS K p loose mean mg mb A₀ base outer h₀ L m news s Q R →
      wpAny (model prog w) (ktrTop dp un gd cn cs L a ccd cl outer) (call (.ref f) vs) Q E s
theorem Claim.toS {k : Nat} {prog : Program} {w : World} {K : Frag} {p : Program} {loose : List Str} {mean : ExcName → Option Value} {mg mb : Str → Option Value} {f : Addr} {news : List (Addr × Obj)} {vs : List Value} {R : Tok → Value}
    (c : Claim k prog w K p loose mean mg mb f news vs R) : ClaimS k prog w K p loose mean mg mb f news vs R := by
  intro dp un gd cn cs a ccd cl outer A₀ base h₀ L m s Q E B F X N T _ _ D hk hd hu hret
  exact c dp un gd cn cs a ccd cl outer A₀ base h₀ L m s Q E B F X N T hk hd hu fun t h' tk' F' N' => hret t h' tk' h₀ KtsTurn.refl B F' X N' T D
theorem lvS_ret {fs : List Addr} {A₀ : Around} {base : Heap} {outer : List Env} {h₀ g g' : Heap} {L L' : Addr} {m m' : Str → Option Value} {R : Result → Shared → Prop} {v : Value} {s' : Shared} {news news' : List (Addr × Obj)} {K : Frag} {p : Program} {loose : List Str} {mean : ExcName → Option Value} {mg mb : Str → Option Value}
    (T : KtsTurn fs g g') (F' : Fr g' L' s'.heap m') (N' : News g' L' s'.heap news') (XB : K.In base) (TB : Top p loose mean mg mb base) (D : KtsDicts (outer.filterMap (·.frame)) h₀) (sub : ∀ p ∈ news, p ∈ news')
    (k : ∀ h₀', KtsTurn (outer.filterMap (·.frame)) h₀ h₀' → Below A₀ base outer h₀' → Fr h₀' L s'.heap m → K.In h₀' → News h₀' L s'.heap news → Top p loose mean mg mb h₀' → KtsDicts (outer.filterMap (·.frame)) h₀' → R (.ok (.ret v)) s') :
    LvS fs A₀ base outer h₀ L m g R v s' :=
  ⟨g', L', m', news', T, F', N', fun h₀' kT kB kF kN => k h₀' kT kB kF (XB.keeps kB.stays) (fun q hq => kN q (sub q hq)) (TB.keeps kB.stays) (D.turn kT)⟩
/-- a method called with a star: the attribute is read first -/
theorem starCall {M : Model} {A : Around} {E : Value → Shared → Prop} {s : Shared} {env : Env} {o : Expr} {name : Str} {apos pos : Pos} {args : List Expr} {Q : Value → Shared → Prop}
    (h : wpAny M A (eval o env) (fun ov s₁ => wpAny M A (getAttr ov name true) (fun f s₂ => wpAny M A (callWith pos f [] (backTo pos (starEach args env)) []) Q E s₂) E s₁) E s)
    (he : eval (.Call (.Attribute o name apos) args [] pos) env = (do
      let ov ← eval o env
      standAt apos.atName
      let (f, first) ← holding [ov] (do pure (← getAttr ov name true, ([] : List Value)))
      let callPos ← (pure pos : Sem Pos)
      callWith callPos f first (backTo pos (starEach args env)) [])) :
    wpAny M A (eval (.Call (.Attribute o name apos) args [] pos) env) Q E s := by
  rw [he]
  refine wpAny_bind (wpAny_mono h (fun ov s₁ h₁ => wpAny_bind (wpAny_standAt (wpAny_bind (wpAny_holding (wpAny_bind (wpAny_mono h₁ (fun f s₂ h₂ => ?_) fun _ _ x => x)))))) fun _ _ x => x)
  exact wpAny_pure (wpAny_bind (wpAny_pure h₂))
section
variable {prog : Program} {w : World} {A : Around} {E : Value → Shared → Prop} {s : Shared} {K : Frag} {h₀ : Heap} {L x C dx p : Addr} {m : Str → Option Value} {ox : Obj} {es : List DictEntry} {n : Nat} {name : Str} {f : Value} {rest : List Value}
/-- a static method read from an object of the class -/
theorem get_sm {expr : Bool} {Q : Value → Shared → Prop} (F : Fr h₀ L s.heap m) (X₀ : K.In h₀) (I : InstAt s.heap x ox C (some (dictOf es n))) (hg : plainGet K C name = true) (hh : hasDictIn K C = true) (ha : findIn K (.ref C) name = some (some (.ref p)))
    (hgf : specialIn K (.ref p) "__get__" = some (some (.builtin "staticmethod.__get__"))) (ht : takesIn K (.ref p) = some false) (hc : copiedNames.contains name = false) (hl : getL name es = some none) (hp : recIn K p "staticmethod" = some (f :: rest)) (hv : handedIn f = true)
    (h : Q f { s with toks := s.toks + 1 }) : wpAny (model prog w) A (getAttr (.ref x) name expr) Q E s :=
  get_bind (X₀.keeps F.keep) I (plainGet_of hg).1 (findObj_fn hh ha hgf ht hc (by show lookIn name (dictOf es n) = _; rw [lookIn_dict, hl])) (plainGet_of hg).2
    (wpAny_call (sm_get (s := { s with toks := s.toks + 1 }) (X₀.keeps F.keep) hp (handed_on hv h)))
end
end Mine
end
-- X2
theorem Mine.off_X2 : True := by
  w_top off
  trivial
section
open PySem PySem.W PySem.Spec PySem.Calls PyProof.Rows PyProof.V
set_option maxRecDepth 100000
namespace Mine
/-- an exception without a context, its traceback's head known -/
def ExcAt (B : Heap) (l : List Env) (e : Addr) (X : String) (fl : Value) (h : Heap) : Prop :=
  B.StaysIn h ∧ B.get? e = none ∧ h.FunFrames B l ∧
    ∃ oe vs T oT ts, h.get? e = some oe ∧ oe.cls = .type X ∧ oe.data = .fields vs ∧ vs[1]? = some (.ref T) ∧ vs[2]? = some .none ∧ B.get? T = none ∧ T ≠ e ∧ h.get? T = some oT ∧ oT.data = .fields ts ∧ ts[3]? = some fl
section
variable {M : Model} {A : Around} {E : Value → Shared → Prop} {s : Shared}
theorem note_new {B : Heap} {env : Env} {outer : List Env} {L e : Addr} {oe : Obj} {vs : Array Value} {X : String} {Q : Unit → Shared → Prop}
    (hfr : A.frames = some (env :: outer)) (hl : s.heap.FunFrames B (env :: outer)) (hf : env.frame = some L) (he : s.heap.get? e = some oe) (hc : oe.cls = .type X) (hkb : B.StaysIn s.heap) (hen : B.get? e = none) (hd : oe.data = .fields vs)
    (h1 : vs[1]? = some .none) (h2 : vs[2]? = some .none)
    (h : ∀ h', ExcAt B (env :: outer) e X (rawInt L) h' → s.heap.UpToSlots h' → Q () { s with heap := h' }) : wpAny M A (noteFrame (.ref e) env) Q E s := by
  unfold noteFrame
  simp only [hf]
  refine wpAny_bind (wpAny_field he hd h1 ?_)
  rw [if_neg (by decide)]
  have off : e ∉ (env :: outer).filterMap (·.frame) := fun hm => by
    obtain ⟨_, o, ho, hnf⟩ := hl.mem hm
    rw [he] at ho
    cases ho
    exact hnf vs hd
  refine wpAny_bind (wpAny_frameOf_fun hfr hl hf fun h₁ hs₁ => ?_)
  refine wpAny_bind (wpAny_entryPlaceOf fun pl hpl => ?_)
  unfold EntryCells.newEntry newFields
  refine wpAny_bind (wpAny_newObj_type ?_ (hpl.sizeOk5 _ _ _ _ _))
  have e1 : h₁.get? e = some oe := (hs₁.2.1 e off).trans he
  have k1 : B.StaysIn h₁ := fun b o hb => (hs₁.2.1 b fun hm => by rw [(hl.mem hm).1] at hb; cases hb).trans (hkb b o hb)
  have hsz : 1 < vs.size := (Array.getElem?_eq_some_iff.mp h1).1
  generalize hO : ({ cls := .type "traceback", dict := none, data := .fields ([Value.none, .ref L, .none, rawInt L, .none] ++ (if pl.isEmpty then List.replicate 6 Value.none else pl)).toArray } : Obj) = O
  have e2 : (h₁.push O).get? e = some oe := Heap.get?_push_of_some _ e1
  refine wpAny_setField e2 hd hsz ?_
  have hT : h₁.objs.size ≠ e := Nat.ne_of_gt (Heap.lt_size e1)
  have d3 := Obj.data_mapFields hd (·.setIfInBounds 1 (Value.ref h₁.objs.size))
  have e3 := Heap.get?_update_self (Obj.mapFields (·.setIfInBounds 1 (Value.ref h₁.objs.size))) e2 (Obj.isFreed_of_fields d3)
  have keep : ∀ b o, b ≠ e → h₁.get? b = some o → ((h₁.push O).update e (Obj.mapFields (·.setIfInBounds 1 (Value.ref h₁.objs.size)))).get? b = some o := fun b o hb hbo => by
    rw [Heap.get?_update_other _ _ (Ne.symm hb)]
    exact Heap.get?_push_of_some _ hbo
  have ne : ∀ b o, s.heap.get? b = some o → (∀ vs, o.data ≠ .fields vs) → b ≠ e := fun b o hb hnf q => by
    rw [q, he] at hb
    cases hb
    exact hnf vs hd
  have hOT : ((h₁.push O).update e (Obj.mapFields (·.setIfInBounds 1 (Value.ref h₁.objs.size)))).get? h₁.objs.size = some O := by
    rw [Heap.get?_update_other _ _ (Ne.symm hT)]
    exact Heap.get?_push_size _ (by rw [← hO]; rfl)
  refine h _ ⟨fun b o hb => keep b o (fun q => by rw [q, hen] at hb; cases hb) (k1 b o hb), hen, hl.of_keeps fun b o hb hnf => ?_, ?_⟩ fun b o hb hnf => ?_
  · obtain ⟨sl, hs⟩ := hs₁.2.2 b o hb
    exact ⟨_, keep b _ (ne b o hb hnf) hs, rfl⟩
  · refine ⟨_, _, h₁.objs.size, O, _, e3, (Obj.cls_mapFields _ _).trans hc, d3, by simp [hsz], ?_, k1.fresh, hT, hOT, by rw [← hO], ?_⟩
    · rw [Array.getElem?_setIfInBounds_ne (by decide)]; exact h2
    · rcases hpl with rfl | ⟨_, _, _, _, _, _, _, rfl⟩ <;> simp
  · obtain ⟨sl, hs⟩ := hs₁.2.2 b o hb
    exact ⟨sl, keep b _ (ne b o hb hnf) hs⟩
theorem flight_none {B : Heap} {l : List Env} {e : Addr} {X : String} {fl : Value} {Q : Unit → Shared → Prop} (x : ExcAt B l e X fl s.heap)
    (h : ∀ h', ExcAt B l e X .none h' → s.heap.UpToSlots h' → Q () { s with heap := h' }) : wpAny M A (setFlight (.ref e) none) Q E s := by
  obtain ⟨hkb, hen, hl, oe, vs, T, oT, ts, he, hc, hd, h1, h2, hnT, hTe, hT, hdT, h3⟩ := x
  have hsz : 3 < ts.size := (Array.getElem?_eq_some_iff.mp h3).1
  unfold setFlight
  refine wpAny_bind (wpAny_field he hd h1 ?_)
  rw [if_pos (show (Value.ref T != Value.none) = true from by simp)]
  refine wpAny_setField hT hdT hsz ?_
  have other : ∀ b, b ≠ T → (s.heap.update T (Obj.mapFields (·.setIfInBounds 3 ((none : Option Addr).elim Value.none fun f => rawInt f)))).get? b = s.heap.get? b :=
    fun b hb => Heap.get?_update_other _ _ (Ne.symm hb)
  have ne : ∀ b o, s.heap.get? b = some o → (∀ vs, o.data ≠ .fields vs) → b ≠ T := fun b o hb hnf q => by
    rw [q, hT] at hb
    cases hb
    exact hnf ts hdT
  refine h _ ⟨fun b o hb => (other b fun q => by rw [q, hnT] at hb; cases hb).trans (hkb b o hb), hen, hl.of_keeps fun b o hb hnf => ⟨o, (other b (ne b o hb hnf)).trans hb, rfl⟩,
    oe, vs, T, _, _, (other e (Ne.symm hTe)).trans he, hc, hd, h1, h2, hnT, hTe, Heap.get?_update_self _ hT (Obj.isFreed_of_fields (Obj.data_mapFields hdT _)), Obj.data_mapFields hdT _, by simp [hsz]⟩
    fun b o hb hnf => ⟨o.slots, (other b (ne b o hb hnf)).trans hb⟩
end
section
variable {prog : Program} {w : World} {A₀ : Around} {E : Value → Shared → Prop} {s' : Shared} {base g h : Heap} {outer : List Env} {L a e : Addr} {m : Str → Option Value} {name : Str} {scope : Scope} {cd : Value}
  {b₀ : Stmt} {suite : List Stmt} {pos np : Pos} {rest : List ExceptHandler} {Q : Flow → Shared → Prop} {news : List (Addr × Obj)} {KF : Frag}
  {p : Program} {loose : List Str} {mean : ExcName → Option Value} {mg mb : Str → Option Value} {x : Str} {X T' : String}
/-- an exception of the interpreter's, raised and caught in one def's frame -/
theorem caught_here (K : Below A₀ base outer g) (hx : Heap.NewExc h s'.heap e X) (F : Fr g L h m) (N : News g L h news) (XB : KF.In base) (TB : Top p loose mean mg mb base) (D : KtsDicts (outer.filterMap (·.frame)) g)
    (ex : nsIn KF mainGlobals x = some none) (hv : bootBuiltins x = some (.type T')) (hn' : x ≠ "__name__")
    (hexc : isSubtype (.type T') (.type "BaseException") = pure true) (hnt : isSubtype (.type ((Manifest.find? T').elim "type" fun y => y.metatype)) (.type "tuple") = pure false) (hsub : isSubtype (.type X) (.type T') = pure true)
    (k : ∀ h' g' oe vs, KtsTurn (outer.filterMap (·.frame)) g g' → Fr g' L h' m → News g' L h' ((e, oe) :: news) → oe.data = .fields vs → vs[2]? = some .none → (∀ p ∈ news, p.1 ≠ e) → Below A₀ base outer g' → KF.In g' → Top p loose mean mg mb g' → KtsDicts (outer.filterMap (·.frame)) g' →
      wpAny (model prog w) ((A₀.deeper (envOf name scope L a cd)).mark (some (.ref e))) (execs (b₀ :: suite) (envOf name scope L a cd)) Q E { s' with heap := h' })
    (hk : scope.kind = .function) (hxk : (envOf name scope L a cd).kindOf x = some .globalImplicit) (hd : (x == ("__debug__" : Str)) = false)
    (hE : PassesOwnAt (model prog w) ((A₀.deeper (envOf name scope L a cd)).mark (some (.ref e))) (A₀.deeper (envOf name scope L a cd)) (envOf name scope L a cd) E) :
    wpAny (model prog w) (A₀.deeper (envOf name scope L a cd)) (noteFrame (.ref e) (envOf name scope L a cd))
      (fun _ s₂ => wpAny (model prog w) (A₀.deeper (envOf name scope L a cd)) (setFlight (.ref e) none) (fun _ s₃ =>
        wpAny (model prog w) (A₀.deeper (envOf name scope L a cd)) (handleBy (.ref e) (envOf name scope L a cd) (.ExceptHandler (some (.Name x np)) none (b₀ :: suite) pos :: rest)) Q E s₃) E s₂) E s' := by
  have K' := K.push (name := name) (a := a) (cd := cd) F hk
  have hin : ∀ env ∈ (envOf name scope L a cd :: outer), ∀ b, env.frame = some b → b ∈ (envOf name scope L a cd :: outer).filterMap (·.frame) := fun env he b hb => List.mem_filterMap.mpr ⟨env, he, hb⟩
  generalize hB : hideAll h ((envOf name scope L a cd :: outer).filterMap (·.frame)) = B
  have hBG : ∀ b o, h.get? b = some o → b ∉ (envOf name scope L a cd :: outer).filterMap (·.frame) → B.get? b = some o := fun b o e nm => by rw [← hB]; exact hideAll_get _ e nm
  have hBh : ∀ b o, B.get? b = some o → h.get? b = some o := fun b o e => by rw [← hB] at e; exact of_hideAll _ e
  have hBL : B.get? L = none := by
    rw [← hB]
    exact hideAll_none _ (List.mem_filterMap.mpr ⟨_, .head _, rfl⟩)
  obtain ⟨ob, tp, he, hcls, hdt⟩ := hx.there
  have hen : B.get? e = none := by
    cases q : B.get? e with
    | none => rfl
    | some o => have := hBh _ _ q; rw [hx.new] at this; cases this
  have hff : s'.heap.FunFrames B (envOf name scope L a cd :: outer) := by
    rw [← hB]
    exact (funFrames_hide K'.frames hin).of_keeps fun b o hb _ => ⟨o, hx.keeps b o hb, rfl⟩
  refine note_new (X := X) (B := B) K'.stack hff rfl he hcls (fun b o q => hx.keeps b o (hBh b o q)) hen hdt rfl rfl fun h₄ x₄ u₄ => ?_
  refine flight_none x₄ fun h₅ x₅ u₅ => ?_
  have hsm₅ : h.UpToSlots h₅ := ((Heap.UpToSlots.of_keeps hx.keeps).trans u₄).trans u₅
  obtain ⟨g₅, T₅, F₅, K₅⟩ := kts_ground K F hBG x₅.1 hsm₅
  have X₅ : KF.In g₅ := XB.keeps K₅.stays
  have P₅ : TopRead p loose mg mb g₅ := topRead_of (TB.keeps K₅.stays)
  have hthere := x₅.2.2.2
  obtain ⟨oe₅, _, _, _, _, hoe₅, hoc₅, _⟩ := hthere
  refine wpAny_handleBy_builtin (X := X) (T := T') (b := true) hexc hnt hsub (name_B F₅ X₅ P₅ ex hv hn' ⟨rfl, ⟨oe₅, hoe₅, hoc₅⟩, ?_⟩ hk hxk hd)
  refine flight_none x₅ fun h₆ x₆ u₆ => ?_
  have hsm₆ := hsm₅.trans u₆
  obtain ⟨g₆, T₆, F₆, K₆⟩ := kts_ground K F hBG x₆.1 hsm₆
  obtain ⟨hk₆, _, _, oe, vs, _, _, _, hoe, _, hod, _, ho2, _⟩ := x₆
  have X₆ : KF.In g₆ := XB.keeps K₆.stays
  have P₆ : Top p loose mean mg mb g₆ := TB.keeps K₆.stays
  have D₆ : KtsDicts (outer.filterMap (·.frame)) g₆ := D.turn T₆
  have nf : ∀ q ∈ news, q.1 ∉ (envOf name scope L a cd :: outer).filterMap (·.frame) := fun q hq hm => by
    rcases kts_mem hm with z | z
    · exact (N q hq).2.1 z
    · obtain ⟨_, o, ho, _⟩ := K.frames.mem z
      rw [(N q hq).2.2] at ho
      cases ho
  have hgE : g.get? e = none := by
    cases q : g.get? e with
    | none => rfl
    | some o => have := F.keep _ _ q; rw [hx.new] at this; cases this
  have hLe : e ≠ L := fun q => by
    obtain ⟨oL, _, _, hL, _⟩ := F.ns
    have z := hx.new
    rw [q, hL] at z
    cases z
  have N₆ : News g₆ L h₆ ((e, oe) :: news) := fun q hq => by
    rcases List.mem_cons.mp hq with rfl | hq
    · exact ⟨hoe, hLe, T₆.none_ _ hgE⟩
    · exact ⟨hk₆ _ _ (hBG _ _ (N q hq).1 (nf q hq)), (N q hq).2.1, T₆.none_ _ (N q hq).2.2⟩
  exact wpAny_passesOwnAt hE (k h₆ g₆ oe vs T₆ F₆ N₆ hod ho2 (fun q hq z => by
    have := (N q hq).1
    rw [z, hx.new] at this
    cases this) K₆ X₆ P₆ D₆)
end
end Mine
end
-- X3
theorem Mine.off_X3 : True := by
  w_top off
  trivial
section
open PySem PySem.W PySem.Spec PySem.Calls PyProof.Rows PyProof.V
set_option maxRecDepth 100000
namespace Mine
theorem entry_unchain : entryFor table "proto.unchain" = some Builtin.«proto.unchain» := entryFor_of_tree (by kernel_rfl)
/-- the exception that is being handled, without a context of its own -/
def HandledAt (A : Around) (h : Heap) (e : Addr) : Prop := A.handled = some (.ref e) ∧ ∃ oe vs, h.get? e = some oe ∧ oe.data = .fields vs ∧ vs[2]? = some .none
theorem HandledAt.keeps {A : Around} {h h' : Heap} {e : Addr} (x : HandledAt A h e) (k : ∀ o, h.get? e = some o → h'.get? e = some o) : HandledAt A h' e := by
  obtain ⟨hh, oe, vs, he, r⟩ := x
  exact ⟨hh, oe, vs, k _ he, r⟩
section
variable {prog : Program} {w : World} {A : Around} {E : Value → Shared → Prop} {s : Shared}
/-- StopIteration raised while another exception is being handled -/
theorem raise_stop {α : Type} {e : Addr} {Q : α → Shared → Prop} (x : HandledAt A s.heap e)
    (h : ∀ h' r, (∀ b o, s.heap.get? b = some o → h'.get? b = some o) → (∃ o, h'.get? r = some o ∧ o.cls = .type "StopIteration") → s.heap.get? r = none → E (.ref r) { s with heap := h' }) :
    wpAny (model prog w) A (newExc (.type "StopIteration") [] >>= fun r => (raiseNew r : Sem α)) Q E s := by
  obtain ⟨hh, oe, vs, he, hd, h2⟩ := x
  refine wpAny_bind ?_
  simp only [newExc, newTuple]
  refine wpAny_bind (wpAny_newObj_type ?_ (by size_fits))
  refine wpAny_bind (m := firstArgMember _ _) (wpAny_of_eq (a := Value.none) (by first | rfl | (simp only [firstArgMember]; rfl)) ?_)
  refine wpAny_newObj_type ?_ (by size_fits)
  generalize hH : (s.heap.push _).push _ = H
  have k : ∀ b o, s.heap.get? b = some o → H.get? b = some o := fun b o hb => by
    rw [← hH]
    exact Heap.get?_push_of_some _ (Heap.get?_push_of_some _ hb)
  have hr0 : s.heap.get? (s.heap.push { cls := .type "tuple", dict := none, data := .seq ([] : List Value).toArray }).objs.size = none := Heap.get?_none_of_le (by simp)
  generalize hr : (s.heap.push { cls := .type "tuple", dict := none, data := .seq ([] : List Value).toArray }).objs.size = r at hr0
  obtain ⟨ro, hro, hrc, rvs, hrd, hrz⟩ : ∃ ro, H.get? r = some ro ∧ ro.cls = .type "StopIteration" ∧ ∃ rvs, ro.data = .fields rvs ∧ 2 < rvs.size := by
    rw [← hH, ← hr]
    exact ⟨_, Heap.get?_push_size _ rfl, rfl, _, rfl, by rw [Array.size_append]; exact Nat.lt_of_lt_of_le (by decide : 2 < 6) (Nat.le_add_right 6 _)⟩
  have hne : e ≠ r := fun q => by rw [q, hr0] at he; cases he
  simp only [raiseNew]
  refine wpAny_bind (wpAny_handled ?_)
  rw [hh]
  have hif : ((Value.ref e != Value.ref r) = true) := by simp [hne]
  dsimp only
  rw [if_pos hif]
  refine wpAny_bind (wpAny_holding (wpAny_runValue (codeAny_builtin entry_unchain ?_)))
  refine wpAny_bind (m := field (.ref e) 2) (wpAny_field (k _ _ he) hd h2 ?_)
  refine wpAny_bind (wpAny_pure ?_)
  refine wpAny_pure ?_
  dsimp only
  refine wpAny_bind ?_
  show wpAny _ _ (setField (.ref r) 2 (.ref e)) _ _ _
  refine wpAny_setField hro hrd hrz (wpAny_throw ?_)
  have up := Heap.get?_update_self (Obj.mapFields (·.setIfInBounds 2 (Value.ref e))) hro (Obj.isFreed_of_fields (Obj.data_mapFields hrd _))
  refine h _ r (fun b o hb => ?_) ⟨_, up, (Obj.cls_mapFields _ _).trans hrc⟩ hr0
  rw [Heap.get?_update_other _ _ (fun q => by rw [← q, hr0] at hb; cases hb)]
  exact k b o hb
/-- the step of a tuple's iterator past the end, another exception being handled -/
theorem tuple_next_end {it t : Addr} {i : Nat} {items : Array Value} {e : Addr} {Q : Fin → Shared → Prop} (x : HandledAt A s.heap e) (hie : e ≠ it) (hit : s.heap.IsTupleIter it t i) (ht : s.heap.IsTuple t items) (hx : items[i]? = none)
    (hE : ∀ h' r, Heap.ExtBut it s.heap h' → (∃ o, h'.get? r = some o ∧ o.cls = .type "StopIteration") → s.heap.get? r = none → E (.ref r) { s with heap := h' }) :
    wpAny (model prog w) A (Builtin.«tuple_iterator.__next__» ⟨[.ref it], []⟩) Q E s := by
  obtain ⟨o, ho, hc, hd⟩ := id hit
  obtain ⟨ol, hol, _, nl, hdl⟩ := ht
  show wpAny _ _ (field (.ref it) 0 >>= _) _ _ s
  refine wpAny_bind (wpAny_field ho hd (x := .ref t) rfl ?_)
  show wpAny _ _ (if (Value.ref t == Value.none) = true then _ else _) _ _ s
  rw [if_neg (show ¬ ((Value.ref t == Value.none) = true) from Bool.false_ne_true)]
  show wpAny _ _ (field (.ref it) 1 >>= _) _ _ s
  refine wpAny_bind (wpAny_field ho hd (x := .int i 0) rfl ?_)
  show wpAny _ _ (seqItems? (.ref t) >>= _) _ _ s
  refine wpAny_bind (wpAny_seqItems hol hdl ?_)
  simp only [Int.toNat_natCast, hx]
  refine wpAny_bind (wpAny_rule (wpAny_bind (wpAny_setField ho hd (by simp) ?_)))
  have sb : Heap.ExtBut it s.heap (s.heap.update it (Obj.mapFields (·.setIfInBounds 0 Value.none))) := (Heap.SameBut.update ..).extBut
  show wpAny _ _ (newExc (.type "StopIteration") [] >>= fun r => raiseNew r) _ _ _
  refine raise_stop (x.keeps fun oe he => sb _ _ hie he) fun h' r k hr hn => hE h' r (fun b ob hb hbo => k b ob (sb b ob hb hbo)) hr ?_
  cases q : s.heap.get? r with
  | none => rfl
  | some ob =>
    by_cases hri : r = it
    · subst hri
      rw [Heap.get?_update_self _ ho (Obj.isFreed_of_fields (Obj.data_mapFields hd _))] at hn
      cases hn
    · have hn' := hn
      rw [sb r ob hri q] at hn'
      cases hn'
theorem nextOf_tuple_end {it t : Addr} {i : Nat} {items : Array Value} {e : Addr} {Q : Value → Shared → Prop} (x : HandledAt A s.heap e) (hie : e ≠ it) (hit : s.heap.IsTupleIter it t i) (ht : s.heap.IsTuple t items) (hx : items[i]? = none)
    (hE : ∀ h' r, Heap.ExtBut it s.heap h' → (∃ o, h'.get? r = some o ∧ o.cls = .type "StopIteration") → s.heap.get? r = none → E (.ref r) { s with heap := h' }) :
    wpAny (model prog w) A (Builtin.SmallTypes.nextOf (.ref it)) Q E s := by
  unfold Builtin.SmallTypes.nextOf
  exact wpAny_bind (wpAny_callSpecial?_slot (name := Str.ofString "__next__") hit.typeIs F.slot_tuple_iterator_next
    (wpAny_call_entry F.slot_tuple_iterator_next hit.typeIs F.entry_tuple_iterator_next (tuple_next_end (A := A.in1) x hie hit ht hx hE) (F.args_tuple_iterator_next_1 _)))
theorem pyNext_tuple_end {it t : Addr} {i : Nat} {items : Array Value} {e : Addr} {Q : Option Value → Shared → Prop} (x : HandledAt A s.heap e) (hie : e ≠ it) (hit : s.heap.IsTupleIter it t i) (ht : s.heap.IsTuple t items) (hx : items[i]? = none)
    (hQ : ∀ h', Heap.ExtBut it s.heap h' → Q none { s with heap := h' }) :
    wpAny (model prog w) A (pyNext (.ref it)) Q E s := by
  unfold pyNext
  refine wpAny_bind (wpAny_attempt (wpAny_callSpecial?_slot (name := Str.ofString "__next__") hit.typeIs F.slot_tuple_iterator_next
    (wpAny_call_entry F.slot_tuple_iterator_next hit.typeIs F.entry_tuple_iterator_next (tuple_next_end (A := A.in1) x hie hit ht hx fun h' r k hr hn => ?_) (F.args_tuple_iterator_next_1 _))))
  obtain ⟨o, ho, hc⟩ := hr
  refine wpAny_bind (wpAny_isInstance (T := "StopIteration") (b := true) ⟨o, ho, hc⟩ isSubtype_stop ?_)
  exact wpAny_pure (hQ _ k)
theorem nextOf_tuple_item {it t : Addr} {i : Nat} {items : Array Value} {v : Value} {Q : Value → Shared → Prop} (hit : s.heap.IsTupleIter it t i) (ht : s.heap.IsTuple t items) (hx : items[i]? = some v)
    (hQ : ∀ h', h'.IsTupleIter it t (i + 1) → Heap.SameBut it s.heap h' → Q v { s with heap := h' }) :
    wpAny (model prog w) A (Builtin.SmallTypes.nextOf (.ref it)) Q E s := by
  obtain ⟨o, ho, hc, hd⟩ := id hit
  obtain ⟨ol, hol, _, nl, hdl⟩ := ht
  unfold Builtin.SmallTypes.nextOf
  refine wpAny_bind (wpAny_callSpecial?_slot (name := Str.ofString "__next__") hit.typeIs F.slot_tuple_iterator_next
    (wpAny_call_entry F.slot_tuple_iterator_next hit.typeIs F.entry_tuple_iterator_next ?_ (F.args_tuple_iterator_next_1 _)))
  show wpAny _ _ (field (.ref it) 0 >>= _) _ _ s
  refine wpAny_bind (wpAny_field ho hd (x := .ref t) rfl ?_)
  show wpAny _ _ (if (Value.ref t == Value.none) = true then _ else _) _ _ s
  rw [if_neg (show ¬ ((Value.ref t == Value.none) = true) from Bool.false_ne_true)]
  show wpAny _ _ (field (.ref it) 1 >>= _) _ _ s
  refine wpAny_bind (wpAny_field ho hd (x := .int i 0) rfl ?_)
  show wpAny _ _ (seqItems? (.ref t) >>= _) _ _ s
  refine wpAny_bind (wpAny_seqItems hol hdl ?_)
  simp only [Int.toNat_natCast, hx]
  refine wpAny_bind (wpAny_setField ho hd (by simp) (wpAny_pure ⟨v, rfl, wpAny_pure (hQ _ ?_ (Heap.SameBut.update ..))⟩))
  exact ⟨_, Heap.get?_update_self _ ho (Obj.isFreed_of_fields (Obj.data_mapFields hd _)), (Obj.cls_mapFields ..).trans hc, by
    rw [Obj.data_mapFields hd]; simp [rawInt]⟩
/-- a pair is unpacked into two names, another exception being handled -/
theorem assign_pair {env : Env} {a b : Str} {pa pb tp : Pos} {kk : Nat} {T : Addr} {x y : Value} {m : Str → Option Value} {e : Addr} {Q : Unit → Shared → Prop} (hx : HandledAt A s.heap e) (ht : s.heap.IsTuple T #[x, y])
    (ha : env.kindOf a = some .local) (hb : env.kindOf b = some .local) (hp : (env.scope.kind == .class || (env.scope.kind == .module && env.locals != env.globals)) = false) (hn : s.heap.Ns env.locals m)
    (h : ∀ (h' : Heap) (tk : Nat), h'.Ns env.locals (fun z => if z = b then some y else if z = a then some x else m z) → (∀ c o, c ≠ env.locals → s.heap.get? c = some o → h'.get? c = some o) → Q () { s with heap := h', toks := tk }) :
    wpAny (model prog w) A (assign (.Tuple [.Name a pa, .Name b pb] kk tp) env (.ref T)) Q E s := by
  rw [arm_assign_Tuple]
  refine wpAny_bind (wpAny_standAt ?_)
  unfold unpack
  have hst : (assignEach [.Name a pa, .Name b pb] env).findIdx? (·.1) = none := rfl
  have hln : (assignEach [.Name a pa, .Name b pb] env).length = (#[x, y] : Array Value).size := rfl
  rw [hst, hln]
  refine wpAny_bind (wpAny_holding ?_)
  have hlt : T ≠ s.heap.objs.size := by obtain ⟨o, ho, _⟩ := ht; exact Nat.ne_of_lt (Heap.lt_size ho)
  obtain ⟨hhx, oe, vs, he, hxr⟩ := id hx
  have hele : e ≠ s.heap.objs.size := Nat.ne_of_lt (Heap.lt_size he)
  unfold unpackItems
  refine wpAny_bind ?_
  unfold notIterableAtAll
  refine wpAny_bind (wpAny_specialOf ht.typeIs F.slot_tuple_iter.lookup ?_)
  refine wpAny_pure ?_
  simp only [Bool.false_eq_true, if_false]
  refine wpAny_bind (wpAny_holding (wpAny_pyIter_tuple ht ?_))
  refine wpAny_bind (wpAny_holding (wpAny_draw_tuple hlt (#[x, y] : Array Value).size 0 _ _ ⟨_, Heap.get?_push_size _ rfl, rfl, rfl⟩ (ht.push _) (by simp) fun h₁ hit₁ hs₁ => ?_))
  have hall : List.take (#[x, y] : Array Value).size (List.drop 0 (#[x, y] : Array Value).toList) = (#[x, y] : Array Value).toList := rfl
  rw [hall]
  rw [if_neg (by simp)]
  have ht₁ : h₁.IsTuple T #[x, y] := (ht.push _).extBut hs₁.extBut hlt
  have up₁ : ∀ c o, s.heap.get? c = some o → h₁.get? c = some o := fun c o hc => hs₁.extBut c o (Nat.ne_of_lt (Heap.lt_size hc)) (Heap.get?_push_of_some _ hc)
  refine wpAny_bind (wpAny_holding (pyNext_tuple_end (hx.keeps fun o ho => up₁ e o ho) hele hit₁ ht₁ (by simp) fun h₂ he₂ => ?_))
  simp only [Option.isSome_none, Bool.false_eq_true, if_false]
  refine wpAny_pure ?_
  have up₂ : ∀ c o, s.heap.get? c = some o → h₂.get? c = some o := fun c o hc => he₂ c o (Nat.ne_of_lt (Heap.lt_size hc)) (up₁ c o hc)
  have hn₂ : h₂.Ns env.locals m := hn.at' fun o ho => up₂ _ o ho
  show wpAny _ _ (assignInOrder [assign (.Name a pa) env, assign (.Name b pb) env] [x, y]) _ _ _
  refine assignInOrder_cons ?_
  refine wpAny_assign_Name (wpAny_storeName_local ha hn₂ (fun h₃ hn₃ hs₃ => ?_) hp)
  refine assignInOrder_cons ?_
  refine wpAny_assign_Name (wpAny_storeName_local hb hn₃ (fun h₄ hn₄ hs₄ => ?_) hp)
  refine assignInOrder_nil ?_
  exact h h₄ _ hn₄ fun c o hc ho => hs₄.extBut c o hc (hs₃.extBut c o hc (up₂ c o ho))
end
end Mine
end
-- X4
theorem Mine.off_X4 : True := by
  w_top off
  trivial
section
open PySem PySem.W PySem.Spec PySem.Calls PyProof.Rows PyProof.V
set_option maxRecDepth 100000
namespace Mine
section
variable {prog : Program} {w : World} {A : Around} {E : Value → Shared → Prop} {s : Shared}
theorem zipT_item {z TI TO i1 i2 l1 l2 : Addr} {k1 k2 : Nat} {xs ys : Array Value} {x y a b : Value} {Q : Value → Shared → Prop} (D : ZipApart z TI TO i1 i2 l1 l2)
    (hz : IsZip s.heap z TI TO .none) (hTI : IsPair s.heap TI (.ref i1) (.ref i2)) (hTO : IsPair s.heap TO a b)
    (h1 : s.heap.IsTupleIter i1 l1 k1) (h2 : s.heap.IsTupleIter i2 l2 k2) (hl1 : s.heap.IsTuple l1 xs) (hl2 : s.heap.IsTuple l2 ys) (hx : xs[k1]? = some x) (hy : ys[k2]? = some y)
    (hQ : ∀ h', IsZip h' z TI TO (rawInt s.heap.objs.size) → IsPair h' TO x y → h'.IsTupleIter i1 l1 (k1 + 1) → h'.IsTupleIter i2 l2 (k2 + 1) → IsPair h' s.heap.objs.size x y → h'.objs.size = s.heap.objs.size + 1 →
      (∀ c o, c ≠ z → c ≠ TO → c ≠ i1 → c ≠ i2 → s.heap.get? c = some o → h'.get? c = some o) → Q (.ref s.heap.objs.size) { s with heap := h' }) :
    wpAny (model prog w) A (Builtin.«zip.__next__» ⟨[.ref z], []⟩) (fun fin s' => ∃ v, fin = .done (.ret v) ∧ Q v s') E s := by
  show wpAny _ _ (field (.ref z) 2 >>= _) _ _ _
  refine wpAny_bind (wpAny_field hz rfl (x := .bool false) rfl ?_)
  show wpAny _ _ (field (.ref z) 3 >>= _) _ _ _
  refine wpAny_bind (wpAny_field hz rfl (x := .ref TI) rfl ?_)
  refine wpAny_bind (wpAny_seqItems hTI rfl ?_)
  show wpAny _ _ (Builtin.SmallTypes.ownedTupleIsFree (.ref z) >>= _) _ _ _
  refine wpAny_bind ?_
  unfold Builtin.SmallTypes.ownedTupleIsFree
  refine wpAny_bind (wpAny_field hz rfl (x := .none) rfl (wpAny_pure ?_))
  simp only [if_true]
  refine wpAny_bind (wpAny_rule ?_)
  refine wpAny_bind (wpAny_field hz rfl (x := .ref TO) rfl ?_)
  refine wpAny_bind (wpAny_setField_rec hz (by simp) fun h₁ hz₁ hs₁ => ?_)
  replace hz₁ : IsZip h₁ z TI TO .ellipsis := hz₁
  refine wpAny_bind ?_
  simp only [List.zipIdx_cons, List.zipIdx_nil, List.forIn_cons, List.forIn_nil]
  refine wpAny_bind (wpAny_bind (wpAny_onRaise ?_))
  show wpAny _ _ (Builtin.SmallTypes.nextOf (.ref i1) >>= _) _ _ _
  refine wpAny_bind (nextOf_tuple_item (h1.extBut hs₁.extBut D.i1z) (hl1.extBut hs₁.extBut D.l1z) hx fun h₂ h1₂ hs₂ => wpAny_pure ?_)
  have hTO₂ : IsPair h₂ TO a b := hs₂.extBut _ _ D.TOi1 (hs₁.extBut _ _ D.TOz hTO)
  refine wpAny_bind (wpAny_seqItems hTO₂ rfl ?_)
  refine wpAny_bind (wpAny_updateSeq_pair hTO₂ fun h₃ hTO₃ hs₃ => ?_)
  replace hTO₃ : IsPair h₃ TO x b := hTO₃
  refine wpAny_bind (wpAny_letGo (wpAny_pure ?_))
  refine wpAny_bind (wpAny_bind (wpAny_onRaise ?_))
  show wpAny _ _ (Builtin.SmallTypes.nextOf (.ref i2) >>= _) _ _ _
  refine wpAny_bind (nextOf_tuple_item (((h2.extBut hs₁.extBut D.i2z).extBut hs₂.extBut D.i12.symm).extBut hs₃.extBut D.TOi2.symm)
    (((hl2.extBut hs₁.extBut D.l2z).extBut hs₂.extBut D.l2i1).extBut hs₃.extBut D.l2TO) hy fun h₄ h2₄ hs₄ => wpAny_pure ?_)
  have hTO₄ : IsPair h₄ TO x b := hs₄.extBut _ _ D.TOi2 hTO₃
  refine wpAny_bind (wpAny_seqItems hTO₄ rfl ?_)
  refine wpAny_bind (wpAny_updateSeq_pair hTO₄ fun h₅ hTO₅ hs₅ => ?_)
  replace hTO₅ : IsPair h₅ TO x y := hTO₅
  refine wpAny_bind (wpAny_letGo (wpAny_pure (wpAny_pure ?_)))
  refine wpAny_bind (wpAny_seqItems hTO₅ rfl ?_)
  refine wpAny_bind (wpAny_newTuple ?_)
  have hsz : h₅.objs.size = s.heap.objs.size := by rw [hs₅.1, hs₄.1, hs₃.1, hs₂.1, hs₁.1]
  have hz₅ : IsZip h₅ z TI TO .ellipsis := hs₅.extBut _ _ D.TOz.symm (hs₄.extBut _ _ D.i2z.symm (hs₃.extBut _ _ D.TOz.symm (hs₂.extBut _ _ D.i1z.symm hz₁)))
  have hk₅ : ∀ c o, c ≠ z → c ≠ TO → c ≠ i1 → c ≠ i2 → s.heap.get? c = some o → h₅.get? c = some o := fun c o c1 c2 c3 c4 e =>
    hs₅.extBut _ _ c2 (hs₄.extBut _ _ c4 (hs₃.extBut _ _ c2 (hs₂.extBut _ _ c3 (hs₁.extBut _ _ c1 e))))
  have h1₅ : h₅.IsTupleIter i1 l1 (k1 + 1) := ((h1₂.extBut hs₃.extBut D.TOi1.symm).extBut hs₄.extBut D.i12).extBut hs₅.extBut D.TOi1.symm
  have h2₅ : h₅.IsTupleIter i2 l2 (k2 + 1) := h2₄.extBut hs₅.extBut D.TOi2.symm
  have hzlt : z < h₅.objs.size := Heap.lt_size hz₅
  show wpAny _ _ (Builtin.SmallTypes.ownedTupleHandOut (.ref z) (.ref h₅.objs.size) >>= _) _ _ _
  refine wpAny_bind ?_
  unfold Builtin.SmallTypes.ownedTupleHandOut
  have hz₆ : IsZip (h₅.push { cls := .type "tuple", data := .seq #[x, y] }) z TI TO .ellipsis := Heap.get?_push_of_some _ hz₅
  refine wpAny_bind (wpAny_setField_rec hz₆ (by simp) fun h₇ hz₇ hs₇ => ?_)
  replace hz₇ : IsZip h₇ z TI TO (rawInt h₅.objs.size) := hz₇
  refine wpAny_setField_rec hz₇ (by simp) fun h₈ hz₈ hs₈ => ?_
  replace hz₈ : IsZip h₈ z TI TO (rawInt h₅.objs.size) := hz₈
  have up : ∀ c o, c ≠ z → h₅.get? c = some o → h₈.get? c = some o := fun c o c1 e => hs₈.extBut _ _ c1 (hs₇.extBut _ _ c1 (Heap.get?_push_of_some _ e))
  have hT₈ : IsPair h₈ h₅.objs.size x y := hs₈.extBut _ _ (Nat.ne_of_gt hzlt) (hs₇.extBut _ _ (Nat.ne_of_gt hzlt) (Heap.get?_push_size _ rfl))
  have hz8 : h₈.objs.size = h₅.objs.size + 1 := by rw [hs₈.1, hs₇.1, Heap.size_push]
  rw [hsz] at hz₈ hT₈ hz8
  refine wpAny_pure ⟨_, rfl, ?_⟩
  show Q (.ref h₅.objs.size) _
  rw [hsz]
  exact hQ h₈ hz₈ (up _ _ D.TOz hTO₅) (PySem.Heap.IsTupleIter.at h1₅ fun o e => up _ o D.i1z e) (PySem.Heap.IsTupleIter.at h2₅ fun o e => up _ o D.i2z e) hT₈ hz8 fun c o c1 c2 c3 c4 e => up c o c1 (hk₅ c o c1 c2 c3 c4 e)
/-- the second iterator is at its end, another exception being handled -/
theorem zipT_end {z TI TO i1 i2 l1 l2 e : Addr} {k1 k2 : Nat} {xs ys : Array Value} {x a b : Value} {Q : Fin → Shared → Prop} (X : HandledAt A s.heap e) (D : ZipApart z TI TO i1 i2 l1 l2)
    (ez : e ≠ z) (eTO : e ≠ TO) (e1 : e ≠ i1) (e2 : e ≠ i2)
    (hz : IsZip s.heap z TI TO .none) (hTI : IsPair s.heap TI (.ref i1) (.ref i2)) (hTO : IsPair s.heap TO a b)
    (h1 : s.heap.IsTupleIter i1 l1 k1) (h2 : s.heap.IsTupleIter i2 l2 k2) (hl1 : s.heap.IsTuple l1 xs) (hl2 : s.heap.IsTuple l2 ys) (hx : xs[k1]? = some x) (hy : ys[k2]? = none)
    (hE : ∀ h' r, (∀ c o, c ≠ z → c ≠ TO → c ≠ i1 → c ≠ i2 → s.heap.get? c = some o → h'.get? c = some o) → (∃ o, h'.get? r = some o ∧ o.cls = .type "StopIteration") → E (.ref r) { s with heap := h' }) :
    wpAny (model prog w) A (Builtin.«zip.__next__» ⟨[.ref z], []⟩) Q E s := by
  show wpAny _ _ (field (.ref z) 2 >>= _) _ _ _
  refine wpAny_bind (wpAny_field hz rfl (x := .bool false) rfl ?_)
  show wpAny _ _ (field (.ref z) 3 >>= _) _ _ _
  refine wpAny_bind (wpAny_field hz rfl (x := .ref TI) rfl ?_)
  refine wpAny_bind (wpAny_seqItems hTI rfl ?_)
  show wpAny _ _ (Builtin.SmallTypes.ownedTupleIsFree (.ref z) >>= _) _ _ _
  refine wpAny_bind ?_
  unfold Builtin.SmallTypes.ownedTupleIsFree
  refine wpAny_bind (wpAny_field hz rfl (x := .none) rfl (wpAny_pure ?_))
  simp only [if_true]
  refine wpAny_bind (wpAny_rule ?_)
  refine wpAny_bind (wpAny_field hz rfl (x := .ref TO) rfl ?_)
  refine wpAny_bind (wpAny_setField_rec hz (by simp) fun h₁ hz₁ hs₁ => ?_)
  replace hz₁ : IsZip h₁ z TI TO .ellipsis := hz₁
  refine wpAny_bind ?_
  simp only [List.zipIdx_cons, List.zipIdx_nil, List.forIn_cons, List.forIn_nil]
  refine wpAny_bind (wpAny_bind (wpAny_onRaise ?_))
  show wpAny _ _ (Builtin.SmallTypes.nextOf (.ref i1) >>= _) _ _ _
  refine wpAny_bind (nextOf_tuple_item (h1.extBut hs₁.extBut D.i1z) (hl1.extBut hs₁.extBut D.l1z) hx fun h₂ h1₂ hs₂ => wpAny_pure ?_)
  have hTO₂ : IsPair h₂ TO a b := hs₂.extBut _ _ D.TOi1 (hs₁.extBut _ _ D.TOz hTO)
  refine wpAny_bind (wpAny_seqItems hTO₂ rfl ?_)
  refine wpAny_bind (wpAny_updateSeq_pair hTO₂ fun h₃ hTO₃ hs₃ => ?_)
  refine wpAny_bind (wpAny_letGo (wpAny_pure ?_))
  refine wpAny_bind (wpAny_bind (wpAny_onRaise ?_))
  show wpAny _ _ (Builtin.SmallTypes.nextOf (.ref i2) >>= _) _ _ _
  refine wpAny_bind (nextOf_tuple_end (X.keeps fun o ho => hs₃.extBut _ _ eTO (hs₂.extBut _ _ e1 (hs₁.extBut _ _ ez ho))) e2 (((h2.extBut hs₁.extBut D.i2z).extBut hs₂.extBut D.i12.symm).extBut hs₃.extBut D.TOi2.symm)
    (((hl2.extBut hs₁.extBut D.l2z).extBut hs₂.extBut D.l2i1).extBut hs₃.extBut D.l2TO) hy fun h₄ r hs₄ hr hrn => ?_)
  obtain ⟨ro, hro, hrc⟩ := hr
  have hz₃ : IsZip h₃ z TI TO .ellipsis := hs₃.extBut _ _ D.TOz.symm (hs₂.extBut _ _ D.i1z.symm hz₁)
  have hz₄ : IsZip h₄ z TI TO .ellipsis := hs₄ _ _ D.i2z.symm hz₃
  have hrz : r ≠ z := fun q => by rw [q, hz₃] at hrn; cases hrn
  refine wpAny_setField_rec hz₄ (by simp) fun h₅ _ hs₅ => hE h₅ r (fun c o c1 c2 c3 c4 q => hs₅.extBut _ _ c1 (hs₄ _ _ c4 (hs₃.extBut _ _ c2 (hs₂.extBut _ _ c3 (hs₁.extBut _ _ c1 q))))) ⟨ro, hs₅.extBut _ _ hrz hro, hrc⟩
theorem pyNext_zipT_item {z TI TO i1 i2 l1 l2 : Addr} {k1 k2 : Nat} {xs ys : Array Value} {x y a b : Value} {Q : Option Value → Shared → Prop} (D : ZipApart z TI TO i1 i2 l1 l2)
    (hz : IsZip s.heap z TI TO .none) (hTI : IsPair s.heap TI (.ref i1) (.ref i2)) (hTO : IsPair s.heap TO a b)
    (h1 : s.heap.IsTupleIter i1 l1 k1) (h2 : s.heap.IsTupleIter i2 l2 k2) (hl1 : s.heap.IsTuple l1 xs) (hl2 : s.heap.IsTuple l2 ys) (hx : xs[k1]? = some x) (hy : ys[k2]? = some y)
    (hQ : ∀ h', IsZip h' z TI TO (rawInt s.heap.objs.size) → IsPair h' TO x y → h'.IsTupleIter i1 l1 (k1 + 1) → h'.IsTupleIter i2 l2 (k2 + 1) → IsPair h' s.heap.objs.size x y → h'.objs.size = s.heap.objs.size + 1 →
      (∀ c o, c ≠ z → c ≠ TO → c ≠ i1 → c ≠ i2 → s.heap.get? c = some o → h'.get? c = some o) → Q (some (.ref s.heap.objs.size)) { s with heap := h' }) :
    wpAny (model prog w) A (pyNext (.ref z)) Q E s := by
  have hT : s.TypeIs (.ref z) "zip" := ⟨_, hz, rfl⟩
  unfold pyNext
  exact wpAny_bind (wpAny_attempt (wpAny_callSpecial?_slot (name := Str.ofString "__next__") hT F.slot_zip_next
    (wpAny_call_entry F.slot_zip_next hT F.entry_zip_next
      (zipT_item D hz hTI hTO h1 h2 hl1 hl2 hx hy fun h' a1 a2 a3 a4 a5 a6 a7 => wpAny_pure (hQ h' a1 a2 a3 a4 a5 a6 a7)) (F.args_zip_next_1 _))))
theorem pyNext_zipT_end {z TI TO i1 i2 l1 l2 e : Addr} {k1 k2 : Nat} {xs ys : Array Value} {x a b : Value} {Q : Option Value → Shared → Prop} (X : HandledAt A s.heap e) (D : ZipApart z TI TO i1 i2 l1 l2)
    (ez : e ≠ z) (eTO : e ≠ TO) (e1 : e ≠ i1) (e2 : e ≠ i2)
    (hz : IsZip s.heap z TI TO .none) (hTI : IsPair s.heap TI (.ref i1) (.ref i2)) (hTO : IsPair s.heap TO a b)
    (h1 : s.heap.IsTupleIter i1 l1 k1) (h2 : s.heap.IsTupleIter i2 l2 k2) (hl1 : s.heap.IsTuple l1 xs) (hl2 : s.heap.IsTuple l2 ys) (hx : xs[k1]? = some x) (hy : ys[k2]? = none)
    (hQ : ∀ h', (∀ c o, c ≠ z → c ≠ TO → c ≠ i1 → c ≠ i2 → s.heap.get? c = some o → h'.get? c = some o) → Q none { s with heap := h' }) :
    wpAny (model prog w) A (pyNext (.ref z)) Q E s := by
  have hT : s.TypeIs (.ref z) "zip" := ⟨_, hz, rfl⟩
  unfold pyNext
  refine wpAny_bind (wpAny_attempt (wpAny_callSpecial?_slot (name := Str.ofString "__next__") hT F.slot_zip_next
    (wpAny_call_entry F.slot_zip_next hT F.entry_zip_next (zipT_end (A := A.in1) X D ez eTO e1 e2 hz hTI hTO h1 h2 hl1 hl2 hx hy fun h' r hk hr => ?_) (F.args_zip_next_1 _))))
  obtain ⟨o, ho, hc⟩ := hr
  refine wpAny_bind (wpAny_isInstance (T := "StopIteration") (b := true) ⟨o, ho, hc⟩ isSubtype_stop ?_)
  exact wpAny_pure (hQ _ hk)
end
abbrev zT1 (h : Heap) (l1 : Addr) : Heap := h.push { cls := .type "tuple_iterator", data := .fields #[.ref l1, .int 0 0] }
abbrev zT2 (h : Heap) (l1 l2 : Addr) : Heap := (zT1 h l1).push { cls := .type "tuple_iterator", data := .fields #[.ref l2, .int 0 0] }
abbrev zT3 (h : Heap) (l1 l2 : Addr) : Heap := (zT2 h l1 l2).push { cls := .type "tuple", data := .seq #[.ref h.objs.size, .ref (zT1 h l1).objs.size] }
abbrev zT4 (h : Heap) (l1 l2 : Addr) : Heap := (zT3 h l1 l2).push { cls := .type "tuple", data := .seq #[.none, .none] }
abbrev zT5 (h : Heap) (l1 l2 : Addr) : Heap := (zT4 h l1 l2).push { cls := .type "zip", data := .fields #[.none, .bool false, .bool false, .ref (zT2 h l1 l2).objs.size, .ref (zT3 h l1 l2).objs.size] }
theorem meets_zipT_new (l1 l2 : Addr) (xs ys : Array Value) :
    Meets (Builtin.«zip.__new__» ⟨[.type "zip", .ref l1, .ref l2], []⟩) (fun _ R s => s.heap.IsTuple l1 xs ∧ s.heap.IsTuple l2 ys ∧
      R (.ok (.ret (.ref (zT4 s.heap l1 l2).objs.size))) { s with heap := zT5 s.heap l1 l2 }) :=
  .of_wp fun prog w A R s h => by
    obtain ⟨hp, g, d, tk, os⟩ := s; obtain ⟨hl1, hl2, h⟩ := h
    have hsub := sub_zip
    have hL1 : Heap.IsTuple (Shared.heap ⟨hp, g, d, tk, os⟩) l1 xs := hl1
    have hL2 : Heap.IsTuple (Shared.heap ⟨hp.push { cls := .type "tuple_iterator", data := .fields #[.ref l1, .int 0 0] }, g, d, tk, os⟩) l2 ys := Heap.IsTuple.push hl2 _
    wp_walk using wpAny_pyIter_tuple hL1, wpAny_pyIter_tuple hL2
    exact ⟨_, rfl, h⟩
section
variable {prog : Program} {w : World} {A : Around} {E : Value → Shared → Prop} {s : Shared}
theorem call_zipT {l1 l2 : Addr} {xs ys : Array Value} {Q : Value → Shared → Prop} (hl1 : s.heap.IsTuple l1 xs) (hl2 : s.heap.IsTuple l2 ys)
    (h : ∀ h', IsZip h' (s.heap.objs.size + 4) (s.heap.objs.size + 2) (s.heap.objs.size + 3) .none → IsPair h' (s.heap.objs.size + 2) (.ref s.heap.objs.size) (.ref (s.heap.objs.size + 1)) →
      IsPair h' (s.heap.objs.size + 3) .none .none → h'.IsTupleIter s.heap.objs.size l1 0 → h'.IsTupleIter (s.heap.objs.size + 1) l2 0 → h'.objs.size = s.heap.objs.size + 5 →
      (∀ c o, s.heap.get? c = some o → h'.get? c = some o) → Q (.ref (s.heap.objs.size + 4)) { s with heap := h' }) :
    wpAny (model prog w) A (call (.type "zip") [.ref l1, .ref l2]) Q E s := by
  refine callType_new F.called_zip (by decide) (F.typeCall_zip_2 _ _) (F.newCall_zip_2 _ _) (fun obj => F.args_object_init_3 obj _ _) F.entry_zip_new
    (meets_zipT_new l1 l2 xs ys) ⟨hl1, hl2, ?_⟩
  have z1 : (zT1 s.heap l1).objs.size = s.heap.objs.size + 1 := Heap.size_push ..
  have z2 : (zT2 s.heap l1 l2).objs.size = s.heap.objs.size + 2 := by rw [Heap.size_push, z1]
  have z3 : (zT3 s.heap l1 l2).objs.size = s.heap.objs.size + 3 := by rw [Heap.size_push, z2]
  have z4 : (zT4 s.heap l1 l2).objs.size = s.heap.objs.size + 4 := by rw [Heap.size_push, z3]
  have z5 : (zT5 s.heap l1 l2).objs.size = s.heap.objs.size + 5 := by rw [Heap.size_push, z4]
  have g5 : (zT5 s.heap l1 l2).get? (zT4 s.heap l1 l2).objs.size = some _ := Heap.get?_push_size _ rfl
  have g4 : (zT5 s.heap l1 l2).get? (zT3 s.heap l1 l2).objs.size = some _ := Heap.get?_push_of_some _ (Heap.get?_push_size _ rfl)
  have g3 : (zT5 s.heap l1 l2).get? (zT2 s.heap l1 l2).objs.size = some _ := Heap.get?_push_of_some _ (Heap.get?_push_of_some _ (Heap.get?_push_size _ rfl))
  have g2 : (zT5 s.heap l1 l2).get? (zT1 s.heap l1).objs.size = some _ := Heap.get?_push_of_some _ (Heap.get?_push_of_some _ (Heap.get?_push_of_some _ (Heap.get?_push_size _ rfl)))
  have g1 : (zT5 s.heap l1 l2).get? s.heap.objs.size = some _ := Heap.get?_push_of_some _ (Heap.get?_push_of_some _ (Heap.get?_push_of_some _ (Heap.get?_push_of_some _ (Heap.get?_push_size _ rfl))))
  show _ ∧ _
  rw [z2, z3, z4] at g5
  rw [z1, z2] at g3
  rw [z3] at g4
  rw [z1] at g2
  rw [z4]
  exact ⟨⟨_, g5, rfl⟩, h _ g5 g3 g4 ⟨_, g1, rfl, rfl⟩ ⟨_, g2, rfl, rfl⟩ z5 fun c o x =>
    Heap.get?_push_of_some _ (Heap.get?_push_of_some _ (Heap.get?_push_of_some _ (Heap.get?_push_of_some _ (Heap.get?_push_of_some _ x))))⟩
/-- for a, b in zip of a pair and of its second item alone: one turn, another exception being handled -/
theorem zip_for {h₀ : Heap} {env : Env} {m : Str → Option Value} {news : List (Addr × Obj)} {t1 t2 e : Addr} {oe o1 o2 : Obj} {vs : Array Value} {x y : Value} {k1 k2 : Nat} {a b : Str} {pa pb tp : Pos} {kk : Nat} {body : List Stmt} {R : Result → Shared → Prop} (P : Prop)
    (hh : A.handled = some (.ref e)) (F : Fr h₀ env.locals s.heap m) (N : News h₀ env.locals s.heap news) (he : (e, oe) ∈ news) (hd : oe.data = .fields vs) (h2 : vs[2]? = some .none)
    (ht1 : (t1, o1) ∈ news) (c1 : o1.cls = .type "tuple") (d1 : o1.data = .seq #[x, y] k1) (ht2 : (t2, o2) ∈ news) (c2 : o2.cls = .type "tuple") (d2 : o2.data = .seq #[y] k2)
    (ha : env.kindOf a = some .local) (hb : env.kindOf b = some .local) (hp : (env.scope.kind == .class || (env.scope.kind == .module && env.locals != env.globals)) = false)
    (turn : ∀ h₁ tk, Fr h₀ env.locals h₁ (fun z => if z = b then some y else if z = a then some x else m z) → News h₀ env.locals h₁ news →
      wpAny (model prog w) A (execs body env) (fun f s₃ => match f with | .next => P ∧ ∃ tk', s₃ = { s with heap := h₁, toks := tk' } | .ret v => R (.ok (.ret v)) s₃ | _ => False) (notedBy (model prog w) A env fun e s' => R (.error e) s') { s with heap := h₁, toks := tk })
    (done : ∀ h₁ tk, P → Fr h₀ env.locals h₁ (fun z => if z = b then some y else if z = a then some x else m z) → News h₀ env.locals h₁ news → R (.ok .next) { s with heap := h₁, toks := tk }) :
    wpAny (model prog w) A (call (.type "zip") [.ref t1, .ref t2]) (fun v s₁ => wpAny (model prog w) A (pyIter v) (fun it s₂ => codeAny (model prog w) A (.forLoop (.Tuple [.Name a pa, .Name b pb] kk tp) it body [] env) R s₂) E s₁) E s := by
  have it1 : s.heap.IsTuple t1 #[x, y] := ⟨_, (N _ ht1).1, c1, k1, d1⟩
  have it2 : s.heap.IsTuple t2 #[y] := ⟨_, (N _ ht2).1, c2, k2, d2⟩
  have lt1 : t1 < s.heap.objs.size := Heap.lt_size (N _ ht1).1
  have lt2 : t2 < s.heap.objs.size := Heap.lt_size (N _ ht2).1
  have lte : e < s.heap.objs.size := Heap.lt_size (N _ he).1
  have ltL : env.locals < s.heap.objs.size := F.ns.lt
  generalize hn : s.heap.objs.size = n at lt1 lt2 lte ltL
  have D : ZipApart (n + 4) (n + 2) (n + 3) n (n + 1) t1 t2 := zipApart_new lt1 lt2
  have nlt : ∀ {q : Nat}, q < n → ∀ j, q ≠ n + j := fun h j q => by omega
  refine call_zipT it1 it2 fun h₁ z₁ p₁ o₁ i₁ j₁ sz₁ up₁ => ?_
  rw [hn] at z₁ p₁ o₁ i₁ j₁ sz₁
  rw [hn]
  refine wpAny_pyIter_zip z₁ ?_
  have F₁ : Fr h₀ env.locals h₁ m := F.keeps up₁
  have N₁ : News h₀ env.locals h₁ news := N.grown up₁
  -- what stands at a turn's start
  refine codeAny_forLoop_any (fun k s' => (k = 1 ∧ s' = { s with heap := h₁ }) ∨
    (k = 0 ∧ P ∧ ∃ h₅ tk, s' = { s with heap := h₅, toks := tk } ∧ Fr h₀ env.locals h₅ (fun z => if z = b then some y else if z = a then some x else m z) ∧ News h₀ env.locals h₅ news ∧
      IsZip h₅ (n + 4) (n + 2) (n + 3) .none ∧ IsPair h₅ (n + 2) (.ref n) (.ref (n + 1)) ∧ (∃ u v, IsPair h₅ (n + 3) u v) ∧ h₅.IsTupleIter n t1 1 ∧ h₅.IsTupleIter (n + 1) t2 1)) ?_ 1 (.inl ⟨rfl, rfl⟩)
  rintro k s' (⟨rfl, rfl⟩ | ⟨rfl, hP, h₅, tk, rfl, F₅, N₅, z₅, p₅, ⟨u, v, o₅⟩, i₅, j₅⟩)
  · have u1 : (#[x, y] : Array Value)[0]? = some x := rfl
    have u2 : (#[y] : Array Value)[0]? = some y := rfl
    refine pyNext_zipT_item D z₁ p₁ o₁ i₁ j₁ (PySem.Heap.IsTuple.at it1 fun o ho => up₁ _ o ho) (PySem.Heap.IsTuple.at it2 fun o ho => up₁ _ o ho) u1 u2 fun h₂ z₂ o₂ i₂ j₂ p₂ sz₂ k₂ => ?_
    rw [sz₁] at z₂ p₂ sz₂
    have kk₂ : ∀ c o, c < n → h₁.get? c = some o → h₂.get? c = some o := fun c o hc ho => k₂ c o (nlt hc 4) (nlt hc 3) (nlt hc 0) (nlt hc 1) ho
    dsimp only
    rw [sz₁]
    refine wpAny_letOwnedTupleGo_zip z₂ fun h₃ z₃ s₃ => ?_
    have kk₃ : ∀ c o, c < n → h₁.get? c = some o → h₃.get? c = some o := fun c o hc ho => s₃.extBut _ _ (nlt hc 4) (kk₂ c o hc ho)
    have ltn : ∀ p ∈ news, p.1 < n := fun p hp => by rw [← hn]; exact Heap.lt_size (N p hp).1
    have F₃ : Fr h₀ env.locals h₃ m := ⟨F₁.ns.at' fun o ho => kk₃ _ o ltL ho, fun c o hc => kk₃ c o (Nat.lt_of_lt_of_le (Heap.lt_size hc) (Nat.le_trans F.above (Nat.le_of_lt ltL))) (F₁.keep c o hc), F₁.above⟩
    have N₃ : News h₀ env.locals h₃ news := fun p hp => ⟨kk₃ _ _ (ltn p hp) (N₁ p hp).1, (N₁ p hp).2⟩
    have pT : h₃.IsTuple (n + 5) #[x, y] := ⟨_, s₃.extBut _ _ (Nat.ne_of_gt (Nat.lt_succ_self _)) p₂, rfl, _, rfl⟩
    have X₃ : HandledAt A h₃ e := ⟨hh, oe, vs, (N₃ _ he).1, hd, h2⟩
    refine assign_pair (s := { s with heap := h₃ }) X₃ pT ha hb hp F₃.ns fun h₄ tk n₄ k₄ => ?_
    have hL₀ : h₀.get? env.locals = none := Heap.get?_none_of_le F₃.above
    have F₄ : Fr h₀ env.locals h₄ (fun z => if z = b then some y else if z = a then some x else m z) := ⟨n₄, fun c o hc => k₄ c o (fun q => by rw [q, hL₀] at hc; cases hc) (F₃.keep c o hc), F₃.above⟩
    have N₄ : News h₀ env.locals h₄ news := fun p hp => ⟨k₄ _ _ (N₃ p hp).2.1 (N₃ p hp).1, (N₃ p hp).2⟩
    refine wpAny_mono (turn h₄ tk F₄ N₄) (fun f s₃' hf => ?_) fun _ _ q => q
    cases f with
    | next =>
      obtain ⟨hP, tk', rfl⟩ := hf
      have off : ∀ j, n + j ≠ env.locals := fun j => Ne.symm (nlt ltL j)
      refine ⟨0, by decide, .inr ⟨rfl, hP, h₄, tk', rfl, F₄, N₄, k₄ _ _ (off 4) z₃, k₄ _ _ (off 2) (s₃.extBut _ _ D.TIz (k₂ _ _ D.TIz D.TITO D.TIi1 D.TIi2 p₁)), ⟨x, y, k₄ _ _ (off 3) (s₃.extBut _ _ D.TOz o₂)⟩, PySem.Heap.IsTupleIter.at i₂ fun o ho => k₄ _ _ (off 0) (s₃.extBut _ _ D.i1z ho), PySem.Heap.IsTupleIter.at j₂ fun o ho => k₄ _ _ (off 1) (s₃.extBut _ _ D.i2z ho)⟩⟩
    | ret v => exact hf
    | brk => exact hf.elim
    | cont => exact hf.elim
  · have u1 : (#[x, y] : Array Value)[1]? = some y := rfl
    have u2 : (#[y] : Array Value)[1]? = none := rfl
    have X₅ : HandledAt A h₅ e := ⟨hh, oe, vs, (N₅ _ he).1, hd, h2⟩
    refine pyNext_zipT_end (s := { s with heap := h₅, toks := tk }) X₅ D (nlt lte 4) (nlt lte 3) (nlt lte 0) (nlt lte 1) z₅ p₅ o₅ i₅ j₅ ⟨_, (N₅ _ ht1).1, c1, k1, d1⟩ ⟨_, (N₅ _ ht2).1, c2, k2, d2⟩ u1 u2 fun h₆ k₆ => ?_
    have ltn : ∀ p ∈ news, p.1 < n := fun p hp => by rw [← hn]; exact Heap.lt_size (N p hp).1
    have kk₆ : ∀ c o, c < n → h₅.get? c = some o → h₆.get? c = some o := fun c o hc ho => k₆ c o (nlt hc 4) (nlt hc 3) (nlt hc 0) (nlt hc 1) ho
    show wpAny _ _ (execs [] env) _ _ _
    refine wpAny_execs_nil (done h₆ tk hP ⟨F₅.ns.at' fun o ho => kk₆ _ o ltL ho, fun c o hc => kk₆ c o (Nat.lt_of_lt_of_le (Heap.lt_size hc) (Nat.le_trans F.above (Nat.le_of_lt ltL))) (F₅.keep c o hc), F₅.above⟩ fun p hp => ⟨kk₆ _ _ (ltn p hp) (N₅ p hp).1, (N₅ p hp).2⟩)
end
end Mine
end
-- I3
theorem Mine.off_I3 : True := by
  w_top off
  trivial
section
open PySem PySem.W PySem.Spec PySem.Calls PyProof.Rows PyProof.V
set_option maxRecDepth 100000
set_option maxHeartbeats 8000000
namespace Mine
local macro_rules | `(tactic| k_room) => `(tactic| ktr_room)
local macro_rules | `(tactic| k_units) => `(tactic| ktr_units)
local macro_rules | `(tactic| k_mem) => `(tactic| assumption)
local macro_rules | `(tactic| walk_at "call type:set cons nil") => `(tactic| (k_here; k_dflt (refine' set_lists_raise ?F ?N ?hh ?hu ?hm ?ha ?hb ?_; (case F => k_asm); (case N => k_asm); (case hm => k_mem); (case ha => k_mem); (case hb => first | assumption | exact rfl); (case hh => exact rfl); (case hu => ktr_units); k_whole); intro h' tk' e' hX'))
local macro_rules | `(tactic| walk_at "compareOp NotEq ref ref") => `(tactic| (k_here; k_dflt (refine' kqd_ne ?N ?ma ?ca ?da ?Da ?sa ?mb ?cb ?db ?Db ?sb ?ha ?hb ?hu ?_; (case N => k_asm); (case ma => k_mem); (case ca => exact rfl); (case da => exact rfl); (case Da => assumption); (case mb => k_mem); (case cb => exact rfl); (case db => exact rfl); (case Db => assumption); (case sa => (intro p9 h9; repeat (first | exact h9 | refine List.Mem.tail _ ?_))); (case sb => (intro p9 h9; repeat (first | exact h9 | refine List.Mem.tail _ ?_))); (case ha => assumption); (case hb => assumption); (case hu => ktr_units); k_whole)))
local macro_rules | `(tactic| walk_at "exec For") => `(tactic| (k_here; k_dflt (refine wpAny_For ?_)))
theorem mem3 {h₀ h : Heap} {L : Addr} {a b c p : Addr × Obj} {l : List (Addr × Obj)} (_ : News h₀ L h (a :: b :: c :: l)) (hp : p ∈ l) : p ∈ a :: b :: c :: l := .tail _ (.tail _ (.tail _ hp))
open Classical in
theorem ident_list {prog : Program} {w : World} {p : Program} {loose : List Str} {mean : ExcName → Option Value} {mg mb : Str → Option Value} (news : List (Addr × Obj)) (x y : Addr) (vs ws : List Value) (nx ny : Nat) (ds es : List Dat)
   (hx : (x, W.listOf vs.toArray nx) ∈ news) (hy : (y, W.listOf ws.toArray ny) ∈ news) (dx : DatAll news vs ds) (dy : DatAll news ws es) (ox : ∀ d ∈ ds, kqdOk 8 d = true) (oy : ∀ d ∈ es, kqdOk 8 d = true) :
   ClaimS 10 prog w (hd.heap_39 w.params) p loose mean mg mb 100 news [.ref x, .ref y] (fun _ => .bool (decide (ds = es))) := by
  intro dp un gd cn cs a ccd cl outer A₀ base h₀ L m s Q E B F X N T XB TB D hk hd hu hret
  obtain ⟨ck, c2, c3, c4, c5⟩ := cs
  cases hk
  refine wpAny_call ?_
  refine' rest_S ?k1 ?k2 ?k3 ?k4 ?k5 ?kD ?kA ?kF ?kK ?k6 ?k7 ?k8 ?kV ?kP ?kG ?kB ?_ ?c2 ?c3 ?c4 ?c5
  (case kA => exact rfl); (case kF => exact rfl); (case kK => exact rfl); (case k1 => k_asm); (case k2 => k_asm); (case k3 => k_asm); (case k4 => k_asm); (case k5 => k_asm); (case kD => assumption); (case k6 => k_is); (case k7 => k_is); (case k8 => k_room); (case kV => kl_lit); (case kP => exact rfl); (case kG => exact fun _ => rfl); (case kB => exact fun _ => locs rfl); (case c5 => decide); (case c2 => exact rfl); (case c3 => exact rfl); (case c4 => exact rfl)
  intro Dv g' L' h' l1 FG' F' N' B' X' T' D'
  dsimp only
  w_strict k_steps
  rename Heap.NewExc _ _ _ _ => hX9
  refine' caught_here (T' := "TypeError") ?K hX9 ?F ?N XB TB ?D ?ex PyProof.Rows.Boot.«TypeError» ?hn PySem.F.isExc_TypeError PySem.F.notTuple_TypeError ?hs ?_ ?hk ?hxk ?hd ?hE
  (case K => assumption); (case F => k_asm); (case N => k_asm); (case D => assumption); (case hs => kts_sub); (case ex => k_is); (case hn => decide); (case hk => exact rfl); (case hxk => exact rfl); (case hd => decide); (case hE => passes_own)
  intro h₂ g₂ oe vs2 T₂ F₂ N₂ od₂ ov₂ ne₂ K₂ X₂ P₂ D₂
  clear F' N' FG' B' X' T' D'
  w_strict k_steps
  refine slice_tuple_from (a := 1) F₂ N₂ ⟨_, (N₂ _ (.tail _ (.head _))).1, rfl, 0, rfl⟩ (by decide) (by exact Nat.le_of_ble_eq_true rfl) ?_
  intro h₃ F₃ N₃
  w_strict k_steps
  have hx3 := mem3 N₃ hx
  have hy3 := mem3 N₃ hy
  refine zip_for (ds = es) (by exact rfl) F₃ N₃ (.tail _ (.head _)) od₂ ov₂ (.tail _ (.tail _ (.head _))) rfl rfl (.head _) rfl rfl (by with_unfolding_all rfl) (by with_unfolding_all rfl) (by with_unfolding_all rfl) ?_ ?_
  · intro h₄ tk₄ F₄ N₄
    clear F₂ N₂ F₃ N₃
    w_strict k_steps
    · dsimp only
      refine lvS_ret T₂ F₄ N₄ XB TB D (fun p hp => .tail _ (.tail _ (.tail _ hp))) fun h₀' kT kB kF kX kN kP kD => ?_
      have e := hret 0 _ tk₄ h₀' kT kB kF kX kN kP kD
      rw [decide_eq_false (by assumption)] at e
      exact e
  · intro h₄ tk₄ hde F₄ N₄
    clear F₂ N₂ F₃ N₃
    dsimp only
    w_strict k_steps
    dsimp only
    refine lvS_ret T₂ F₄ N₄ XB TB D (fun p hp => .tail _ (.tail _ (.tail _ hp))) fun h₀' kT kB kF kX kN kP kD => ?_
    have e := hret 0 _ tk₄ h₀' kT kB kF kX kN kP kD
    rw [decide_eq_true hde] at e
    exact e
end Mine
end
local macro_rules | `(tactic| walk_at "blank 18") => `(tactic| fail "blank")
local macro_rules | `(tactic| walk_at "blank 19") => `(tactic| fail "blank")
local macro_rules | `(tactic| walk_at "blank 20") => `(tactic| fail "blank")
local macro_rules | `(tactic| walk_at "blank 21") => `(tactic| fail "blank")
-- P1
theorem Mine.off_P1 : True := by
  w_top off
  trivial
section
open PySem PySem.W PySem.Spec PySem.Calls PyProof.Rows PyProof.V
set_option maxRecDepth 100000
namespace Mine
theorem owner_map : Manifest.owners.lookup (String.ofList ['p', 'a', 'm'].reverse) = some Manifest.sig_map := by kernel_rfl
theorem slot_map_next : Slot "map" "__next__" "map.__next__" :=
  .of (owner := "map") (n := "__next__") (by rw [typeLookup_type, builtinLookup_eq_fast]; kernel_rfl) (by decide +kernel) (by decide +kernel) (by decide +kernel)
    (by first | exact .inl (by decide +kernel) | exact .inr (by decide +kernel)) (by rw [isSubtype_type]; kernel_rfl)
theorem entry_map_next : entryFor table "map.__next__" = some Builtin.«map.__next__» := entryFor_of_tree (by kernel_rfl)
theorem args_map_next (a : Value) : argsOk "map.__next__" ⟨[a], []⟩ := by
  unfold argsOk; rw [signature?_of (id := "map.__next__") (n := ['_', '_', 't', 'x', 'e', 'n', '_', '_']) (o := ['p', 'a', 'm']) (by kernel_rfl) owner_map]; kernel_rfl
theorem slot_map_iter : Slot "map" "__iter__" "map.__iter__" :=
  .of (owner := "map") (n := "__iter__") (by rw [typeLookup_type, builtinLookup_eq_fast]; kernel_rfl) (by decide +kernel) (by decide +kernel) (by decide +kernel)
    (by first | exact .inl (by decide +kernel) | exact .inr (by decide +kernel)) (by rw [isSubtype_type]; kernel_rfl)
theorem args_map_iter (a : Value) : argsOk "map.__iter__" ⟨[a], []⟩ := by
  unfold argsOk; rw [signature?_of (id := "map.__iter__") (n := ['_', '_', 'r', 'e', 't', 'i', '_', '_']) (o := ['p', 'a', 'm']) (by kernel_rfl) owner_map]; kernel_rfl
theorem entry_map_iter : entryFor table "map.__iter__" = some Builtin.«dict_keyiterator.__iter__» :=
  entryFor_alias (id' := "dict_keyiterator.__iter__") (by kernel_rfl) (by first | rfl | decide +kernel | (unfold String.splitOn; simp +decide [String.splitOnAux])) (by decide +kernel) (by kernel_rfl)
theorem slot_map_init : Slot "map" "__init__" "object.__init__" :=
  .of (owner := "object") (n := "__init__") (by rw [typeLookup_type, builtinLookup_eq_fast]; kernel_rfl) (by decide +kernel) (by decide +kernel) (by decide +kernel)
    (by first | exact .inl (by decide +kernel) | exact .inr (by decide +kernel)) (by rw [isSubtype_type]; kernel_rfl)
theorem mro_map : mroOf (.type "map") = pure [.type "map", .type "object"] := by rw [mroOf_type]; kernel_rfl
theorem lookup_map_new : typeLookup (.type "map") "__new__" = pure (some (.builtin "map.__new__")) := by rw [typeLookup_type, builtinLookup_eq_fast]; kernel_rfl
theorem called_map : TypeCalled "map" "map.__new__" "object.__init__" :=
  ⟨by decide +kernel, by decide +kernel, ⟨_, _, mro_map⟩, madeBy_type mro_map lookup_map_new (by decide +kernel), by decide +kernel, by rw [isSubtype_type]; kernel_rfl, slot_map_init⟩
theorem typeCall_map (a b : Value) : checkTypeCall "map" ⟨[a, b], []⟩ = pure () := by kernel_rfl
theorem newCall_map (a b : Value) : checkBuiltinCall "map.__new__" ⟨[.type "map", a, b], []⟩ = pure () := by kernel_rfl
theorem entry_map_new : entryFor table "map.__new__" = some Builtin.«map.__new__» := entryFor_of_tree (by kernel_rfl)
theorem sub_map : isSubtype (.type "map") (.type "map") = pure true := by rw [isSubtype_type]; kernel_rfl
abbrev IsMap (h : Heap) (z TI : Addr) (f : Value) : Prop := h.get? z = some { cls := .type "map", dict := none, data := .fields #[.ref TI, f], slots := #[] }
abbrev IsOne (h : Heap) (T : Addr) (a : Value) : Prop := h.get? T = some { cls := .type "tuple", data := .seq #[a] }
abbrev mH1 (h : Heap) (t : Addr) : Heap := h.push { cls := .type "tuple_iterator", data := .fields #[.ref t, .int 0 0] }
abbrev mH2 (h : Heap) (t : Addr) : Heap := (mH1 h t).push { cls := .type "tuple", data := .seq #[.ref h.objs.size] }
abbrev mH3 (h : Heap) (t : Addr) (f : Value) : Heap := (mH2 h t).push { cls := .type "map", data := .fields #[.ref (mH1 h t).objs.size, f] }
theorem meets_map_new (f : Value) (t : Addr) (xs : Array Value) :
    Meets (Builtin.«map.__new__» ⟨[.type "map", f, .ref t], []⟩) (fun _ R s => s.heap.IsTuple t xs ∧ R (.ok (.ret (.ref (mH2 s.heap t).objs.size))) { s with heap := mH3 s.heap t f }) :=
  .of_wp fun prog w A R s h => by
    obtain ⟨hp, g, d, tk, os⟩ := s; obtain ⟨hl1, h⟩ := h
    have hsub := sub_map
    have hL1 : Heap.IsTuple (Shared.heap ⟨hp, g, d, tk, os⟩) t xs := hl1
    wp_walk using wpAny_pyIter_tuple hL1
    exact ⟨_, rfl, h⟩
section
variable {prog : Program} {w : World} {A : Around} {E : Value → Shared → Prop} {s : Shared}
theorem call_map {f : Value} {t : Addr} {xs : Array Value} {Q : Value → Shared → Prop} (ht : s.heap.IsTuple t xs)
    (h : ∀ h', IsMap h' (s.heap.objs.size + 2) (s.heap.objs.size + 1) f → IsOne h' (s.heap.objs.size + 1) (.ref s.heap.objs.size) → h'.IsTupleIter s.heap.objs.size t 0 → h'.objs.size = s.heap.objs.size + 3 →
      (∀ c o, s.heap.get? c = some o → h'.get? c = some o) → Q (.ref (s.heap.objs.size + 2)) { s with heap := h' }) :
    wpAny (model prog w) A (call (.type "map") [f, .ref t]) Q E s := by
  refine callType_new called_map (by decide) (typeCall_map _ _) (newCall_map _ _) (fun obj => F.args_object_init_3 obj _ _) entry_map_new (meets_map_new f t xs) ⟨ht, ?_⟩
  have z1 : (mH1 s.heap t).objs.size = s.heap.objs.size + 1 := Heap.size_push ..
  have z2 : (mH2 s.heap t).objs.size = s.heap.objs.size + 2 := by rw [Heap.size_push, z1]
  have z3 : (mH3 s.heap t f).objs.size = s.heap.objs.size + 3 := by rw [Heap.size_push, z2]
  have g3 : (mH3 s.heap t f).get? (mH2 s.heap t).objs.size = some _ := Heap.get?_push_size _ rfl
  have g2 : (mH3 s.heap t f).get? (mH1 s.heap t).objs.size = some _ := Heap.get?_push_of_some _ (Heap.get?_push_size _ rfl)
  have g1 : (mH3 s.heap t f).get? s.heap.objs.size = some _ := Heap.get?_push_of_some _ (Heap.get?_push_of_some _ (Heap.get?_push_size _ rfl))
  show _ ∧ _
  rw [z1, z2] at g3
  rw [z1] at g2
  rw [z2]
  exact ⟨⟨_, g3, rfl⟩, h _ g3 g2 ⟨_, g1, rfl, rfl⟩ z3 fun c o x => Heap.get?_push_of_some _ (Heap.get?_push_of_some _ (Heap.get?_push_of_some _ x))⟩
theorem pyIter_map {z TI : Addr} {f : Value} {Q : Value → Shared → Prop} (hz : IsMap s.heap z TI f) (h : Q (.ref z) s) : wpAny (model prog w) A (pyIter (.ref z)) Q E s := by
  have hT : s.TypeIs (.ref z) "map" := ⟨_, hz, rfl⟩
  refine wpAny_pyIter_slot hT slot_map_iter (wpAny_call_entry slot_map_iter hT entry_map_iter ?_ (args_map_iter _))
  show wpAny _ _ (ret (.ref z)) _ _ s
  exact wpAny_pure ⟨_, rfl, "map", _, hT, slot_map_next.lookup, h⟩
/-- a value's length as the heap holds it -/
def LenAt (h : Heap) (v : Value) (n : Nat) : Prop := (∃ x t, v = .str x t ∧ x.length = n) ∨ ∃ a items, v = .ref a ∧ h.IsList a items ∧ items.size = n
def adrOf : Value → List Addr
  | .ref a => [a]
  | _ => []
theorem LenAt.keeps {h h' : Heap} {v : Value} {n : Nat} (x : LenAt h v n) (k : ∀ b ∈ adrOf v, ∀ o, h.get? b = some o → h'.get? b = some o) : LenAt h' v n := by
  rcases x with ⟨y, t, rfl, e⟩ | ⟨a, items, rfl, hl, e⟩
  · exact .inl ⟨y, t, rfl, e⟩
  · exact .inr ⟨a, items, rfl, hl.at fun o ho => k a (by simp [adrOf]) o ho, e⟩
theorem len_at {v : Value} {n : Nat} {Q : Value → Shared → Prop} (x : LenAt s.heap v n) (hn : n ≤ 6) (h : ∀ t tk, Q (.int n t) { s with toks := tk }) : wpAny (model prog w) A (call (.builtin "len") [v]) Q E s := by
  rcases x with ⟨y, t, rfl, rfl⟩ | ⟨a, items, rfl, hl, rfl⟩
  · exact PySem.P.len_str (by omega) (h _ _)
  · exact len_list hl (by omega) (h _ _)
theorem truth_at {v : Value} {n : Nat} {Q : Bool → Shared → Prop} (x : LenAt s.heap v n) (hn : n ≤ 6) (h : ∀ tk, Q (decide (n ≠ 0)) { s with toks := tk }) : wpAny (model prog w) A (truthy v) Q E s := by
  rcases x with ⟨y, t, rfl, rfl⟩ | ⟨a, items, rfl, hl, rfl⟩
  · refine PySem.P.truthy_str (by omega) ?_
    have e : ((y.length : Int) != 0) = decide (y.length ≠ 0) := by
      by_cases hz : y.length = 0
      · simp [hz]
      · simp [hz]
    rw [e]; exact h _
  · refine wpAny_truthy_list hl (by omega) ?_
    have e : (!items.isEmpty) = decide (items.size ≠ 0) := by
      unfold Array.isEmpty
      by_cases hz : items.size = 0
      · simp [hz]
      · simp [hz]
    rw [e]; exact h _
theorem seq_at {h₀ : Heap} {L : Addr} {news : List (Addr × Obj)} {h : Heap} {v : Value} {ds : List Dat} (N : News h₀ L h news) (hS : SeqIn news v ds) : LenAt h v ds.length := by
  cases hS with
  | str x t => exact .inl ⟨x, t, rfl, (signs_length x).symm⟩
  | list hm hd => exact .inr ⟨_, _, rfl, ⟨_, (N _ hm).1, rfl, _, rfl⟩, by simp [hd.length]⟩
theorem mapNext_item {z TI it t : Addr} {items : Array Value} {i n : Nat} {v : Value} {Q : Value → Shared → Prop} (s1 : IsMap s.heap z TI (.builtin "len")) (s2 : IsOne s.heap TI (.ref it)) (s3 : s.heap.IsTupleIter it t i) (s4 : s.heap.IsTuple t items)
    (hz : z ≠ it) (hv : items[i]? = some v) (hl : LenAt s.heap v n) (hn : n ≤ 6) (ha : it ∉ adrOf v)
    (hQ : ∀ h' u tk, h'.IsTupleIter it t (i + 1) → Heap.SameBut it s.heap h' → Q (.int n u) { s with heap := h', toks := tk }) :
    wpAny (model prog w) A (Builtin.«map.__next__» ⟨[.ref z], []⟩) (fun fin s' => ∃ v, fin = .done (.ret v) ∧ Q v s') E s := by
  show wpAny _ _ (field (.ref z) 0 >>= _) _ _ _
  refine wpAny_bind (wpAny_field s1 rfl (x := .ref TI) rfl ?_)
  refine wpAny_bind (wpAny_seqItems s2 rfl ?_)
  dsimp only
  refine wpAny_bind ?_
  rw [← Array.forIn_toList]
  simp only [List.forIn_cons, List.forIn_nil]
  refine wpAny_bind (wpAny_bind (wpAny_holding ?_))
  refine nextOf_tuple_item s3 s4 hv fun h₁ hit₁ hs₁ => ?_
  refine wpAny_pure (wpAny_pure ?_)
  refine wpAny_bind (wpAny_field (hs₁.extBut _ _ hz s1) rfl (x := .builtin "len") rfl ?_)
  refine wpAny_bind (wpAny_holding ?_)
  refine len_at (hl.keeps fun c hc o e => hs₁.extBut _ _ (fun q => ha (q ▸ hc)) e) hn fun u tk => ?_
  refine wpAny_bind (wpAny_letGo ?_)
  exact wpAny_pure ⟨_, rfl, hQ h₁ u tk hit₁ hs₁⟩
theorem nextOf_end {it t : Addr} {i : Nat} {items : Array Value} {Q : Value → Shared → Prop} (hh : A.handled = none) (hit : s.heap.IsTupleIter it t i) (ht : s.heap.IsTuple t items) (hx : items[i]? = none)
    (hE : ∀ h' r, Heap.ExtBut it s.heap h' → (∃ o, h'.get? r = some o ∧ o.cls = .type "StopIteration") → E (.ref r) { s with heap := h' }) :
    wpAny (model prog w) A (Builtin.SmallTypes.nextOf (.ref it)) Q E s := by
  obtain ⟨o, ho, hc, hd⟩ := id hit
  obtain ⟨ol, hol, _, nl, hdl⟩ := ht
  unfold Builtin.SmallTypes.nextOf
  refine wpAny_bind (wpAny_callSpecial?_slot (name := Str.ofString "__next__") hit.typeIs F.slot_tuple_iterator_next
    (wpAny_call_entry F.slot_tuple_iterator_next hit.typeIs F.entry_tuple_iterator_next ?_ (F.args_tuple_iterator_next_1 _)))
  show wpAny _ _ (field (.ref it) 0 >>= _) _ _ s
  refine wpAny_bind (wpAny_field ho hd (x := .ref t) rfl ?_)
  show wpAny _ _ (if (Value.ref t == Value.none) = true then _ else _) _ _ s
  rw [if_neg (show ¬ ((Value.ref t == Value.none) = true) from Bool.false_ne_true)]
  show wpAny _ _ (field (.ref it) 1 >>= _) _ _ s
  refine wpAny_bind (wpAny_field ho hd (x := .int i 0) rfl ?_)
  show wpAny _ _ (seqItems? (.ref t) >>= _) _ _ s
  refine wpAny_bind (wpAny_seqItems hol hdl ?_)
  simp only [Int.toNat_natCast, hx]
  refine wpAny_bind (wpAny_rule (wpAny_bind (wpAny_setField ho hd (by simp) ?_)))
  show wpAny _ _ (newExc (.type "StopIteration") [] >>= _) _ _ _
  refine wpAny_bind ?_
  simp only [newExc, newTuple]
  refine wpAny_bind (wpAny_newObj_type ?_ (by size_fits))
  refine wpAny_bind (m := firstArgMember _ _) (wpAny_of_eq (a := Value.none) (by first | rfl | (simp only [firstArgMember]; rfl)) ?_)
  refine wpAny_newObj_type ?_ (by size_fits)
  simp only [raiseNew]
  refine wpAny_bind (wpAny_handled ?_)
  first | rw [show A.in1.handled = none from hh] | rw [hh]
  refine wpAny_bind (wpAny_pure (wpAny_throw ?_))
  exact hE _ _ (((Heap.SameBut.update ..).extBut.push _).push _) ⟨_, Heap.get?_push_size _ rfl, rfl⟩
/-- a map of len over a pair -/
theorem walks_mapLen {z TI it t : Addr} {x y : Value} {a b : Nat} (hh : A.handled = none) (hit : t ≠ it) (hz : z ≠ it) (hTI : TI ≠ it) (hx : it ∉ adrOf x) (hy : it ∉ adrOf y) (ha : a ≤ 6) (hb : b ≤ 6) :
    Walks prog w A z ([z, TI, it, t] ++ adrOf x ++ adrOf y) [it] 2 (fun i v => ∃ u, v = .int (if i = 0 then (a : Int) else b) u)
      (fun i h => IsMap h z TI (.builtin "len") ∧ IsOne h TI (.ref it) ∧ h.IsTupleIter it t i ∧ h.IsTuple t #[x, y] ∧ LenAt h x a ∧ LenAt h y b) where
  sub := fun c hc => by simp at hc; simp [hc]
  frame := fun i h h' ⟨s1, s2, s3, s4, s5, s6⟩ hk => ⟨hk z (by simp) _ s1, hk TI (by simp) _ s2, PySem.Heap.IsTupleIter.at s3 fun o e => hk it (by simp) o e, PySem.Heap.IsTuple.at s4 fun o e => hk t (by simp) o e,
    s5.keeps fun c hc o e => hk c (by simp [hc]) o e, s6.keeps fun c hc o e => hk c (by simp [hc]) o e⟩
  item := fun i s Q E hi ⟨s1, s2, s3, s4, s5, s6⟩ hQ => by
    have hT : s.TypeIs (.ref z) "map" := ⟨_, s1, rfl⟩
    unfold pyNext
    refine wpAny_bind (wpAny_attempt (wpAny_callSpecial?_slot (name := Str.ofString "__next__") hT slot_map_next (wpAny_call_entry slot_map_next hT entry_map_next ?_ (args_map_next _))))
    have fin : ∀ (n : Nat), (n : Int) = (if i = 0 then (a : Int) else b) → ∀ h' u tk, h'.IsTupleIter it t (i + 1) → Heap.SameBut it s.heap h' → Q (some (.int n u)) { s with heap := h', toks := tk } := fun n hn h' u tk hi' hs' =>
      hQ _ h' tk ⟨u, by rw [hn]⟩ ⟨hs'.extBut _ _ hz s1, hs'.extBut _ _ hTI s2, hi', s4.extBut hs'.extBut hit, s5.keeps fun c hc o e => hs'.extBut _ _ (fun q => hx (q ▸ hc)) e, s6.keeps fun c hc o e => hs'.extBut _ _ (fun q => hy (q ▸ hc)) e⟩
        fun c o hc e => hs'.extBut c o (fun q => hc (by simp [q])) e
    have hi2 : i = 0 ∨ i = 1 := by omega
    rcases hi2 with rfl | rfl
    · exact mapNext_item s1 s2 s3 s4 hz rfl s5 ha hx fun h' u tk hi' hs' => wpAny_pure (fin a (by simp) h' u tk hi' hs')
    · exact mapNext_item s1 s2 s3 s4 hz rfl s6 hb hy fun h' u tk hi' hs' => wpAny_pure (fin b (by simp) h' u tk hi' hs')
  done := fun s Q E ⟨s1, s2, s3, s4, s5, s6⟩ hQ => by
    have hT : s.TypeIs (.ref z) "map" := ⟨_, s1, rfl⟩
    unfold pyNext
    refine wpAny_bind (wpAny_attempt (wpAny_callSpecial?_slot (name := Str.ofString "__next__") hT slot_map_next (wpAny_call_entry slot_map_next hT entry_map_next ?_ (args_map_next _))))
    show wpAny _ _ (field (.ref z) 0 >>= _) _ _ _
    refine wpAny_bind (wpAny_field s1 rfl (x := .ref TI) rfl ?_)
    refine wpAny_bind (wpAny_seqItems s2 rfl ?_)
    dsimp only
    refine wpAny_bind ?_
    rw [← Array.forIn_toList]
    simp only [List.forIn_cons, List.forIn_nil]
    refine wpAny_bind (wpAny_bind (wpAny_holding ?_))
    refine nextOf_end (A := A.in1) hh s3 s4 rfl fun h' r hk hr => ?_
    obtain ⟨o, ho, hc⟩ := hr
    refine wpAny_bind (wpAny_isInstance (T := "StopIteration") (b := true) ⟨o, ho, hc⟩ isSubtype_stop ?_)
    exact wpAny_pure (hQ h' _ fun c o hc e => hk c o (fun q => hc (by simp [q])) e)
  self := fun i s Q E ⟨s1, _⟩ hQ => pyIter_map s1 hQ
theorem max_map {h₀ : Heap} {L : Addr} {m : Str → Option Value} {news : List (Addr × Obj)} {z TI it t : Addr} {x y : Value} {a b : Nat} {Q : Value → Shared → Prop} (hh : A.handled = none) (F : Fr h₀ L s.heap m) (N : News h₀ L s.heap news)
    (s1 : IsMap s.heap z TI (.builtin "len")) (s2 : IsOne s.heap TI (.ref it)) (s3 : s.heap.IsTupleIter it t 0) (s4 : s.heap.IsTuple t #[x, y]) (s5 : LenAt s.heap x a) (s6 : LenAt s.heap y b)
    (hit : t ≠ it) (hz : z ≠ it) (hTI : TI ≠ it) (hx : it ∉ adrOf x) (hy : it ∉ adrOf y) (ha : a ≤ 6) (hb : b ≤ 6) (hL : L ≠ it) (h0 : h₀.get? it = none) (hN : ∀ p ∈ news, p.1 ≠ it)
    (h : ∀ h' tk u, Fr h₀ L h' m → News h₀ L h' news → Q (.int (max a b : Nat) u) { s with heap := h', toks := tk }) :
    wpAny (model prog w) A (call (.builtin "max") [.ref z]) Q E s := by
  refine call_max_walk (pyIter_map s1 ⟨z, _, [it], 2, _, _, _, rfl, walks_mapLen (A := A.in1) hh hit hz hTI hx hy ha hb, ⟨s1, s2, s3, s4, s5, s6⟩, fun c hc => ?_, by decide,
    CmpOf.ints_gt (fun i => if i = 0 then (a : Int) else b) (fun i v hv => hv), fun v h' tk hP hk => ?_⟩)
  · have hl : ∀ {v : Value} {n : Nat}, LenAt s.heap v n → ∀ c ∈ adrOf v, c < s.heap.objs.size := fun {v n} hv c hc => by
      rcases hv with ⟨_, _, rfl, _⟩ | ⟨_, _, rfl, hl, _⟩
      · simp [adrOf] at hc
      · simp [adrOf] at hc
        subst hc
        obtain ⟨_, e, _⟩ := hl
        exact Heap.lt_size e
    rcases List.mem_append.mp hc with hc | hc
    · rcases List.mem_append.mp hc with hc | hc
      · simp only [List.mem_cons, List.not_mem_nil, or_false] at hc
        rcases hc with rfl | rfl | rfl | rfl
        · exact Heap.lt_size s1
        · exact Heap.lt_size s2
        · obtain ⟨_, e, _⟩ := s3; exact Heap.lt_size e
        · obtain ⟨_, e, _⟩ := s4; exact Heap.lt_size e
      · exact hl s5 c hc
    · exact hl s6 c hc
  · have k : ∀ c o, c ≠ it → s.heap.get? c = some o → h'.get? c = some o := fun c o hc e => hk c o (by simpa using hc) e
    have F' : Fr h₀ L h' m := ⟨F.ns.at' fun o e => k L o hL e, fun c o e => k c o (fun q => by rw [q, h0] at e; cases e) (F.keep c o e), F.above⟩
    have N' : News h₀ L h' news := fun p hp => ⟨k _ _ (hN p hp) (N p hp).1, (N p hp).2⟩
    obtain ⟨u, hv⟩ := hP
    subst hv
    have e : (if argBest (fun i j => decide ((if i = 0 then (a : Int) else b) > if j = 0 then (a : Int) else b)) (2 - 1) = 0 then (a : Int) else b) = ((max a b : Nat) : Int) := by
      show (if argBest _ 1 = 0 then (a : Int) else b) = _
      simp only [argBest]
      split <;> (try split at *) <;> simp_all <;> omega
    have := h h' tk u F' N'
    rw [← e] at this
    exact this
theorem all_item {it t : Addr} {items : Array Value} {i n : Nat} {v : Value} {R : Result → Shared → Prop} (s3 : s.heap.IsTupleIter it t i) (s4 : s.heap.IsTuple t items) (hv : items[i]? = some v) (hl : LenAt s.heap v n) (hn : n ≤ 6) (ha : it ∉ adrOf v)
    (h1 : n = 0 → ∀ h' tk, Heap.SameBut it s.heap h' → R (.ok (.ret (.bool false))) { s with heap := h', toks := tk })
    (h2 : n ≠ 0 → ∀ h' tk, h'.IsTupleIter it t (i + 1) → Heap.SameBut it s.heap h' → codeAny (model prog w) A (.builtin "all.loop" ⟨[.ref it], []⟩) R { s with heap := h', toks := tk }) :
    codeAny (model prog w) A (.builtin "all.loop" ⟨[.ref it], []⟩) R s := by
  refine codeAny_builtin F.entry_all_loop ?_
  rw [Around.under_plainId F.plain_all_loop _]
  show wpAny _ A.in1 (pyNext (.ref it) >>= _) _ _ s
  refine wpAny_bind (wpAny_pyNext_tuple_item s3 s4 hv fun h' hi' hs' => ?_)
  refine wpAny_bind (wpAny_holding (truth_at (hl.keeps fun c hc o e => hs'.extBut _ _ (fun q => ha (q ▸ hc)) e) hn fun tk => ?_))
  refine wpAny_bind (wpAny_letGo ?_)
  by_cases hz : n = 0
  · simp only [hz, ne_eq, not_true, decide_false, Bool.false_eq_true, if_false]
    exact wpAny_bind (wpAny_rule (wpAny_pure (h1 hz h' tk hs')))
  · simp only [hz, ne_eq, not_false_eq_true, decide_true, if_true]
    exact wpAny_pure ⟨plainId_quiet F.plain_all_loop _, h2 hz h' tk hi' hs'⟩
theorem all_end {it t : Addr} {items : Array Value} {i : Nat} {R : Result → Shared → Prop} (hh : A.handled = none) (s3 : s.heap.IsTupleIter it t i) (s4 : s.heap.IsTuple t items) (hv : items[i]? = none)
    (h1 : ∀ h', Heap.ExtBut it s.heap h' → R (.ok (.ret (.bool true))) { s with heap := h' }) :
    codeAny (model prog w) A (.builtin "all.loop" ⟨[.ref it], []⟩) R s := by
  refine codeAny_builtin F.entry_all_loop ?_
  rw [Around.under_plainId F.plain_all_loop _]
  show wpAny _ A.in1 (pyNext (.ref it) >>= _) _ _ s
  refine wpAny_bind (wpAny_pyNext_tuple_end (A := A.in1) hh s3 s4 hv fun h' hs' => ?_)
  exact wpAny_bind (wpAny_rule (wpAny_pure (h1 h' hs')))
/-- all of a pair -/
theorem all_pair {h₀ : Heap} {L : Addr} {m : Str → Option Value} {news : List (Addr × Obj)} {t : Addr} {x y : Value} {a b : Nat} {Q : Value → Shared → Prop} (hh : A.handled = none) (FL : Fr h₀ L s.heap m) (N : News h₀ L s.heap news) (ht : s.heap.IsTuple t #[x, y])
    (s5 : LenAt s.heap x a) (s6 : LenAt s.heap y b) (ha : a ≤ 6) (hb : b ≤ 6)
    (h : ∀ h' tk, Fr h₀ L h' m → News h₀ L h' news → Q (.bool (decide (a ≠ 0) && decide (b ≠ 0))) { s with heap := h', toks := tk }) :
    wpAny (model prog w) A (call (.builtin "all") [.ref t]) Q E s := by
  refine call_function_tree F.kind_all F.plain_all F.entry_all (F.args_all1 _) ?_
  unfold Builtin.«all»
  refine wpAny_bind (m := oneArg "all" _) (wpAny_pure ?_)
  refine wpAny_bind (wpAny_pyIter_tuple ht ?_)
  refine wpAny_pure ⟨plainId_quiet F.plain_all_loop _, ?_⟩
  have hl : ∀ {v : Value} {n : Nat}, LenAt s.heap v n → ∀ c ∈ adrOf v, c < s.heap.objs.size := fun {v n} hv c hc => by
    rcases hv with ⟨_, _, rfl, _⟩ | ⟨_, _, rfl, hl, _⟩
    · simp [adrOf] at hc
    · simp [adrOf] at hc
      subst hc
      obtain ⟨_, e, _⟩ := hl
      exact Heap.lt_size e
  have hx : s.heap.objs.size ∉ adrOf x := fun hc => Nat.lt_irrefl _ (hl s5 _ hc)
  have hy : s.heap.objs.size ∉ adrOf y := fun hc => Nat.lt_irrefl _ (hl s6 _ hc)
  have htn : t ≠ s.heap.objs.size := by obtain ⟨_, e, _⟩ := ht; exact Nat.ne_of_lt (Heap.lt_size e)
  have up : ∀ c o, s.heap.get? c = some o → (s.heap.push { cls := .type "tuple_iterator", data := .fields #[.ref t, .int 0 0] }).get? c = some o := fun c o e => Heap.get?_push_of_some _ e
  have lt : ∀ {c o}, s.heap.get? c = some o → c ≠ s.heap.objs.size := fun e => Nat.ne_of_lt (Heap.lt_size e)
  have fin : ∀ (r : Bool) h' tk, (∀ c o, s.heap.get? c = some o → h'.get? c = some o) → r = (decide (a ≠ 0) && decide (b ≠ 0)) → Q (.bool r) { s with heap := h', toks := tk } := fun r h' tk k e => by
    rw [e]
    exact h h' tk (FL.keeps k) (N.grown k)
  refine all_item (s := { s with heap := s.heap.push { cls := .type "tuple_iterator", data := .fields #[.ref t, .int 0 0] } }) (v := x) ⟨_, Heap.get?_push_size _ rfl, rfl, rfl⟩ (ht.push _) rfl (s5.keeps fun c _ o e => up c o e) ha hx (fun hz h' tk hs' => ?_) fun hz h' tk hi' hs' => ?_
  · exact fin false h' tk (fun c o e => hs'.extBut _ _ (lt e) (up c o e)) (by simp [hz])
  · refine all_item (s := { s with heap := h', toks := tk }) (v := y) hi' ((ht.push _).extBut hs'.extBut htn) rfl (s6.keeps fun c hc o e => hs'.extBut _ _ (lt e) (up c o e)) hb hy (fun hz2 h'' tk' hs2 => ?_) fun hz2 h'' tk' hi2 hs2 => ?_
    · exact fin false h'' tk' (fun c o e => hs2.extBut _ _ (lt e) (hs'.extBut _ _ (lt e) (up c o e))) (by simp [hz2])
    · refine all_end (s := { s with heap := h'', toks := tk' }) hh hi2 (((ht.push _).extBut hs'.extBut htn).extBut hs2.extBut htn) rfl fun h3 hs3 => ?_
      exact fin true h3 tk' (fun c o e => hs3 _ _ (lt e) (hs2.extBut _ _ (lt e) (hs'.extBut _ _ (lt e) (up c o e)))) (by simp [hz, hz2])
/-- map over a pair that the ledger holds -/
theorem map_K {h₀ : Heap} {L : Addr} {m : Str → Option Value} {news : List (Addr × Obj)} {t : Addr} {o : Obj} {x y f : Value} {k : Nat} {Q : Value → Shared → Prop} (FL : Fr h₀ L s.heap m) (N : News h₀ L s.heap news) (hm : (t, o) ∈ news) (hc : o.cls = .type "tuple") (hd : o.data = .seq #[x, y] k)
    (h : ∀ h' n, Fr h₀ L h' m → News h₀ L h' ((n + 2, ({ cls := .type "map", dict := none, data := .fields #[.ref (n + 1), f], slots := #[] } : Obj)) :: (n + 1, ({ cls := .type "tuple", data := .seq #[.ref n] } : Obj)) :: news) → h'.IsTupleIter n t 0 → (∀ p ∈ news, p.1 < n) → L < n → (h₀.get? n = none) → Q (.ref (n + 2)) { s with heap := h' }) :
    wpAny (model prog w) A (call (.type "map") [f, .ref t]) Q E s := by
  have ht : s.heap.IsTuple t #[x, y] := ⟨o, (N _ hm).1, hc, k, hd⟩
  refine call_map ht fun h' z1 z2 z3 _ k' => ?_
  have fresh : ∀ j, h₀.get? (s.heap.objs.size + j) = none := fun j => by
    cases q : h₀.get? (s.heap.objs.size + j) with
    | none => rfl
    | some o => exact absurd (Heap.lt_size (FL.keep _ _ q)) (Nat.not_lt.mpr (Nat.le_add_right _ _))
  have offL : ∀ j, s.heap.objs.size + j ≠ L := fun j q => absurd FL.ns.lt (by rw [← q]; exact Nat.not_lt.mpr (Nat.le_add_right _ _))
  refine h h' s.heap.objs.size (FL.keeps k') (fun p hp => ?_) z3 (fun p hp => Heap.lt_size (N p hp).1) FL.ns.lt (fresh 0)
  rcases List.mem_cons.mp hp with rfl | hp
  · exact ⟨z1, offL 2, fresh 2⟩
  rcases List.mem_cons.mp hp with rfl | hp
  · exact ⟨z2, offL 1, fresh 1⟩
  · exact ⟨k' _ _ (N p hp).1, (N p hp).2⟩
theorem max_K {h₀ : Heap} {L : Addr} {m : Str → Option Value} {news : List (Addr × Obj)} {t n : Addr} {o : Obj} {x y : Value} {ds es : List Dat} {k : Nat} {Q : Value → Shared → Prop} (hh : A.handled = none) (FL : Fr h₀ L s.heap m)
    (N : News h₀ L s.heap ((n + 2, ({ cls := .type "map", dict := none, data := .fields #[.ref (n + 1), .builtin "len"], slots := #[] } : Obj)) :: (n + 1, ({ cls := .type "tuple", data := .seq #[.ref n] } : Obj)) :: news))
    (hi : s.heap.IsTupleIter n t 0) (hlt : ∀ p ∈ news, p.1 < n) (hL : L < n) (h0 : h₀.get? n = none) (hm : (t, o) ∈ news) (hc : o.cls = .type "tuple") (hd : o.data = .seq #[x, y] k) (hx : SeqIn news x ds) (hy : SeqIn news y es) (ha : ds.length ≤ 6) (hb : es.length ≤ 6)
    (h : ∀ h' tk u, Fr h₀ L h' m → News h₀ L h' news → Q (.int (max ds.length es.length : Nat) u) { s with heap := h', toks := tk }) :
    wpAny (model prog w) A (call (.builtin "max") [.ref (n + 2)]) Q E s := by
  have N' : News h₀ L s.heap news := fun p hp => N p (.tail _ (.tail _ hp))
  have off : ∀ {v : Value} {ds : List Dat}, SeqIn news v ds → n ∉ adrOf v := fun {v ds} hv hc => by
    cases hv with
    | str x t => simp [adrOf] at hc
    | list hm' _ =>
      simp [adrOf] at hc
      have := hlt _ hm'
      rw [hc] at this
      exact Nat.lt_irrefl _ this
  exact max_map hh FL N' (N _ (.head _)).1 (N _ (.tail _ (.head _))).1 hi ⟨o, (N' _ hm).1, hc, k, hd⟩ (seq_at N' hx) (seq_at N' hy) (Nat.ne_of_lt (hlt _ hm)) (Nat.ne_of_gt (Nat.lt_add_of_pos_right (by decide))) (Nat.ne_of_gt (Nat.lt_succ_self _)) (off hx) (off hy) ha hb (Nat.ne_of_lt hL) h0 (fun p hp => Nat.ne_of_lt (hlt p hp)) h
theorem all_K {h₀ : Heap} {L : Addr} {m : Str → Option Value} {news : List (Addr × Obj)} {t : Addr} {o : Obj} {x y : Value} {ds es : List Dat} {k : Nat} {Q : Value → Shared → Prop} (hh : A.handled = none) (FL : Fr h₀ L s.heap m) (N : News h₀ L s.heap news)
    (hm : (t, o) ∈ news) (hc : o.cls = .type "tuple") (hd : o.data = .seq #[x, y] k) (hx : SeqIn news x ds) (hy : SeqIn news y es) (ha : ds.length ≤ 6) (hb : es.length ≤ 6)
    (h : ∀ h' tk, Fr h₀ L h' m → News h₀ L h' news → Q (.bool (decide (ds.length ≠ 0) && decide (es.length ≠ 0))) { s with heap := h', toks := tk }) :
    wpAny (model prog w) A (call (.builtin "all") [.ref t]) Q E s :=
  all_pair hh FL N ⟨o, (N _ hm).1, hc, k, hd⟩ (seq_at N hx) (seq_at N hy) ha hb h
end
end Mine
end
-- MX
theorem Mine.off_MX : True := by
  w_top off
  trivial
section
open PySem PySem.W PySem.Spec PySem.Calls PyProof.Rows PyProof.V
set_option maxRecDepth 100000
set_option maxHeartbeats 8000000
namespace Mine
local macro_rules | `(tactic| k_room) => `(tactic| ktr_room)
local macro_rules | `(tactic| k_units) => `(tactic| ktr_units)
local macro_rules | `(tactic| k_mem) => `(tactic| assumption)
theorem maximum_walk {prog : Program} {w : World} {p : Program} {loose : List Str} {mean : ExcName → Option Value} {mg mb : Str → Option Value} (news : List (Addr × Obj)) (v u : Value) (ds es : List Dat)
   (hx : SeqIn news v ds) (hy : SeqIn news u es) (hlx : ds.length ≤ 6) (hly : es.length ≤ 6) :
   Claim 3 prog w (hd.heap_39 w.params) p loose mean mg mb 55 news [v, u] (fun t => .int (max ds.length es.length : Nat) t) := by
  intro dp un gd cn cs a ccd cl outer A₀ base h₀ L m s Q E B F X N T hk hd hu hret
  obtain ⟨ck, c2, c3, c4, c5⟩ := cs
  cases hk
  w_strict k_steps
  rename Fr _ _ _ _ => FL
  rename News _ _ _ (_ :: news) => NL
  refine map_K FL NL (.head _) rfl rfl ?_
  intro h₁ n F₁ N₁ hi hlt hL h0
  w_strict k_steps
  refine max_K rfl F₁ N₁ hi hlt hL h0 (.head _) rfl rfl (hx.mono fun p hp => .tail _ hp) (hy.mono fun p hp => .tail _ hp) hlx hly ?_
  intro h₂ tk₂ u₂ F₂ N₂
  clear FL NL F₁ N₁
  w_strict k_steps
  exact cb_retI hret rfl (by k_asm) (cb_drop (by k_asm) fun p hp => .tail _ hp)
end Mine
end
-- Q1
theorem Mine.off_Q1 : True := by
  w_top off
  trivial
section
open PySem PySem.W PySem.Spec PySem.Calls PyProof.Rows PyProof.V
set_option maxRecDepth 100000
set_option maxHeartbeats 8000000
namespace Mine
theorem ClaimS.up {k k' : Nat} {prog : Program} {w : World} {K : Frag} {p : Program} {loose : List Str} {mean : ExcName → Option Value} {mg mb : Str → Option Value} {f : Addr} {news : List (Addr × Obj)} {vs : List Value} {R : Tok → Value}
    (c : ClaimS k prog w K p loose mean mg mb f news vs R) (h : k ≤ k') : ClaimS k' prog w K p loose mean mg mb f news vs R := by
  intro dp un gd cn cs a ccd cl outer A₀ base h₀ L m s Q E B F X N T XB TB D hk hd hu hret
  exact c dp un gd cn cs a ccd cl outer A₀ base h₀ L m s Q E B F X N T XB TB D hk (by omega) (by omega) hret
open Classical in
/-- two texts, or two lists of data; b says whether they are equal -/
inductive Two (news : List (Addr × Obj)) : Value → Value → List Dat → List Dat → Bool → Prop
  | str (x y : Str) (t u : Tok) : Two news (.str x t) (.str y u) (signs x) (signs y) (decide (x = y))
  | list {x y : Addr} {vs ws : List Value} {nx ny : Nat} {ds es : List Dat} : (x, W.listOf vs.toArray nx) ∈ news → (y, W.listOf ws.toArray ny) ∈ news → DatAll news vs ds → DatAll news ws es →
      (∀ d ∈ ds, kqdOk 8 d = true) → (∀ d ∈ es, kqdOk 8 d = true) → Two news (.ref x) (.ref y) ds es (decide (ds = es))
theorem Two.mono {news news' : List (Addr × Obj)} (hs : ∀ p ∈ news, p ∈ news') {v u : Value} {ds es : List Dat} {b : Bool} (h : Two news v u ds es b) : Two news' v u ds es b := by
  cases h with
  | str x y t u => exact .str x y t u
  | list h1 h2 h3 h4 h5 h6 => exact .list (hs _ h1) (hs _ h2) (DatAll.mono hs h3) (DatAll.mono hs h4) h5 h6
theorem Two.left {news : List (Addr × Obj)} {v u : Value} {ds es : List Dat} {b : Bool} (h : Two news v u ds es b) : SeqIn news v ds := by
  cases h with
  | str x y t u => exact .str x t
  | list h1 h2 h3 h4 h5 h6 => exact .list h1 h3
theorem Two.right {news : List (Addr × Obj)} {v u : Value} {ds es : List Dat} {b : Bool} (h : Two news v u ds es b) : SeqIn news u es := by
  cases h with
  | str x y t u => exact .str y u
  | list h1 h2 h3 h4 h5 h6 => exact .list h2 h4
open Classical in
theorem Two.same {news : List (Addr × Obj)} {v u : Value} {ds es : List Dat} {b : Bool} (h : Two news v u ds es b) (hb : b = true) : ds = es := by
  cases h with
  | str x y t u => rw [of_decide_eq_true hb]
  | list h1 h2 h3 h4 h5 h6 => exact of_decide_eq_true hb
open Classical in
theorem ident_two {prog : Program} {w : World} {p : Program} {loose : List Str} {mean : ExcName → Option Value} {mg mb : Str → Option Value} {news : List (Addr × Obj)} {v u : Value} {ds es : List Dat} {b : Bool} (h : Two news v u ds es b) :
    ClaimS 10 prog w (hd.heap_39 w.params) p loose mean mg mb 100 news [v, u] (fun _ => .bool b) := by
  cases h with
  | str x y t u =>
    have := (ident_str (prog := prog) (w := w) (p := p) (loose := loose) (mean := mean) (mg := mg) (mb := mb) news x y t u).toS.up (k' := 10) (by decide)
    exact this
  | list h1 h2 h3 h4 h5 h6 => exact ident_list news _ _ _ _ _ _ _ _ h1 h2 h3 h4 h5 h6
theorem val_eq {Q : Value → Shared → Prop} {v v' : Value} {s : Shared} (h : Q v s) (e : v = v') : Q v' s := e ▸ h
local macro_rules | `(tactic| k_room) => `(tactic| ktr_room)
local macro_rules | `(tactic| k_units) => `(tactic| ktr_units)
local macro_rules | `(tactic| k_mem) => `(tactic| assumption)
local macro_rules | `(tactic| walk_at "getAttr ref") => `(tactic| (k_here; k_dflt (refine' get_sm ?k1 ?k2 ?k3 ?k4 ?k5 ?k6 ?k7 ?k8 ?k9 ?k10 ?k11 ?k12 ?_; (case k3 => k_inst); (case k1 => k_asm); (case k2 => k_asm); (case k4 => k_is); (case k5 => k_is); (case k6 => k_is); (case k7 => k_is); (case k8 => k_is); (case k9 => decide +kernel); (case k10 => k_get); (case k11 => k_is); (case k12 => k_handed); k_whole)))
local macro_rules | `(tactic| k_steps) => `(tactic| repeat' ((fail_if_success (with_reducible show wpAny _ _ (call (Value.ref _) _) _ _ _)); first | (k_unfold; (try dsimp only)) | (k_end; wrow_close) | walk1 | (dsimp only; walk1) | (leave1; walk_say "STEP leave1"; try dsimp only) | fail "no step"))
theorem quick_walk {prog : Program} {w : World} {p : Program} {loose : List Str} {mean : ExcName → Option Value} {mg mb : Str → Option Value} (news : List (Addr × Obj)) (v u : Value) (ds es : List Dat) (b : Bool) (sf dx : Addr) (h1 h2 h3 : Int) (t1 t2 t3 : Tok) (qv : Value) (nd : Nat)
   (hsf : (sf, instObj 189 dx) ∈ news) (hdx : (dx, dictOf [⟨h1, .str (Str.ofString "qval") t1, qv⟩, ⟨h2, .str (Str.ofString "test_func") t2, .ref 100⟩, ⟨h3, .str (Str.ofString "external") t3, .bool true⟩] nd) ∈ news)
   (h : Two news v u ds es b) (hlx : ds.length ≤ 6) (hly : es.length ≤ 6) :
   ClaimS 15 prog w (hd.heap_39 w.params) p loose mean mg mb 93 news [.ref sf, v, u] (fun t => if b then .int 0 t else if ds.length = 0 ∨ es.length = 0 then .int ((max ds.length es.length : Nat) : Int) t else .none) := by
  intro dp un gd cn cs a ccd cl outer A₀ base h₀ L m s Q E B F X N T XB TB D hk hd hu hret
  obtain ⟨ck, c2, c3, c4, c5⟩ := cs
  cases hk
  refine wpAny_call ?_
  refine' rest_S ?k1 ?k2 ?k3 ?k4 ?k5 ?kD ?kA ?kF ?kK ?k6 ?k7 ?k8 ?kV ?kP ?kG ?kB ?_ ?c2 ?c3 ?c4 ?c5
  (case kA => exact rfl); (case kF => exact rfl); (case kK => exact rfl); (case k1 => k_asm); (case k2 => k_asm); (case k3 => k_asm); (case k4 => k_asm); (case k5 => k_asm); (case kD => assumption); (case k6 => k_is); (case k7 => k_is); (case k8 => k_room); (case kV => kl_lit); (case kP => exact rfl); (case kG => exact fun _ => rfl); (case kB => exact fun _ => locs rfl); (case c5 => decide); (case c2 => exact rfl); (case c3 => exact rfl); (case c4 => exact rfl)
  intro Dv g' L' h' l1 FG' F' N' B' X' T' D'
  dsimp only
  w_strict k_steps
  refine starCall ?_ (by rfl)
  w_strict k_steps
  rename Fr g' L' _ _ => Fx
  rename News g' L' _ _ => Nx
  refine' (ident_two ?tw) _ _ _ _ _ _ _ _ _ _ _ _ _ _ _ _ _ B' Fx X' Nx T' XB TB D' ?kk ?hd ?hu ?_
  (case kk => exact rfl); (case hd => ktr_room); (case hu => ktr_units); (case tw => exact h.mono fun p hp => .tail _ hp)
  intro t9 h9 tk9 g9 kT kB kF kX kN kP kD
  clear FG' Fx Nx B' X' T' D'
  dsimp only
  cases b with
  | true =>
    w_strict k_steps
    dsimp only
    refine lvS_ret kT kF kN XB TB D (fun p hp => .tail _ hp) fun h₀' yT yB yF yX yN yP yD => ?_
    exact hret _ _ _ h₀' yT yB yF yX yN yP yD
  | false =>
    w_strict k_steps
    refine all_K rfl kF kN (.head _) rfl rfl (h.left.mono fun p hp => .tail _ hp) (h.right.mono fun p hp => .tail _ hp) hlx hly ?_
    intro h₂ tk₂ F₂ N₂
    clear kF kN
    by_cases hz : ds.length = 0 ∨ es.length = 0
    · have e : (decide (ds.length ≠ 0) && decide (es.length ≠ 0)) = false := by
        rcases hz with hz | hz <;> simp [hz]
      rw [e]
      w_strict k_steps
      refine starCall ?_ (by rfl)
      w_strict k_steps
      rename Fr g9 L' _ _ => Fx
      rename News g9 L' _ _ => Nx
      refine' (maximum_walk _ v u ds es ?hx ?hy hlx hly) _ _ _ _ _ _ _ _ _ _ _ _ _ _ _ _ _ kB Fx kX Nx kP ?kk ?hd ?hu ?_
      (case kk => exact rfl); (case hd => ktr_room); (case hu => ktr_units); (case hx => exact h.left.mono fun p hp => .tail _ hp); (case hy => exact h.right.mono fun p hp => .tail _ hp)
      intro t8 h8 tk8 F8 N8
      clear Fx Nx
      w_strict k_steps
      dsimp only
      refine lvS_ret kT F8 N8 XB TB D (fun p hp => .tail _ hp) fun h₀' yT yB yF yX yN yP yD => ?_
      exact val_eq (hret t8 h8 _ h₀' yT yB yF yX yN yP yD) (by dsimp only; rw [if_neg (by decide), if_pos hz])
    · have e : (decide (ds.length ≠ 0) && decide (es.length ≠ 0)) = true := by
        have h1 : ds.length ≠ 0 := fun q => hz (.inl q)
        have h2 : es.length ≠ 0 := fun q => hz (.inr q)
        simp [h1, h2]
      rw [e]
      w_strict k_steps
      dsimp only
      refine lvS_ret kT F₂ N₂ XB TB D (fun p hp => .tail _ hp) fun h₀' yT yB yF yX yN yP yD => ?_
      exact val_eq (hret 0 h₂ _ h₀' yT yB yF yX yN yP yD) (by dsimp only; rw [if_neg (by decide), if_neg hz])
end Mine
end
local macro_rules | `(tactic| walk_at "blank 22") => `(tactic| fail "blank")
local macro_rules | `(tactic| walk_at "blank 23") => `(tactic| fail "blank")
-- Z1
theorem Mine.off_Z1 : True := by
  w_top off
  trivial
section
open PySem PySem.W PySem.Spec PySem.Calls PyProof.Rows PyProof.V
set_option maxRecDepth 100000
namespace Mine
/-- an iterator of a text, at its i-th sign -/
def SI (h : Heap) (p : Addr × Str × Tok) (i : Nat) : Prop := h.IsStrIter p.1 "str_ascii_iterator" p.2.1 p.2.2 i
theorem SI.at' {h h' : Heap} {p : Addr × Str × Tok} {i : Nat} (x : SI h p i) (k : ∀ o, h.get? p.1 = some o → h'.get? p.1 = some o) : SI h' p i := let ⟨o, ho, r⟩ := x; ⟨o, k _ ho, r⟩
/-- the i-th sign -/
def chr (p : Addr × Str × Tok) (i : Nat) : Str := ⟨#[p.2.1.cps.getD i 0]⟩
section
variable {prog : Program} {w : World} {A : Around}
/-- a turn over several iterators: each gives its i-th sign -/
theorem draws {τ σ : Type} (el : Addr → Nat → τ) (f : τ → σ → Sem (ForInStep σ)) (st : List Value → σ) (Inv : List Value → Heap → Prop) (wr : List Addr) (i N : Nat)
    (step : ∀ (p : Addr × Str × Tok) acc (s : Shared) (Q : ForInStep σ → Shared → Prop) (E : Value → Shared → Prop), acc.length < N → p.1 ∉ wr → SI s.heap p i → i < p.2.1.cps.size → Inv acc s.heap →
      (∀ u h' tk, Inv (acc ++ [.str (chr p i) u]) h' → SI h' p (i + 1) → (∀ c o, c ≠ p.1 → c ∉ wr → s.heap.get? c = some o → h'.get? c = some o) → h'.objs.size = s.heap.objs.size → Q (.yield (st (acc ++ [.str (chr p i) u]))) { s with heap := h', toks := tk }) →
      wpAny (model prog w) A (f (el p.1 acc.length) (st acc)) Q E s) :
    ∀ (ps : List (Addr × Str × Tok)) (els : List τ) (acc : List Value) (s : Shared) (Q : σ → Shared → Prop) (E : Value → Shared → Prop), acc.length + ps.length = N → (ps.map (·.1)).Nodup → (∀ p ∈ ps, p.1 ∉ wr) → (∀ p ∈ ps, SI s.heap p i) → (∀ p ∈ ps, i < p.2.1.cps.size) → Inv acc s.heap →
      els = (List.range ps.length).map (fun j => el ((ps.map (·.1)).getD j 0) (acc.length + j)) →
      (∀ vs h' tk, StrsAre vs (ps.map (chr · i)) → Inv (acc ++ vs) h' → (∀ p ∈ ps, SI h' p (i + 1)) → (∀ c o, (∀ p ∈ ps, c ≠ p.1) → c ∉ wr → s.heap.get? c = some o → h'.get? c = some o) → h'.objs.size = s.heap.objs.size → Q (st (acc ++ vs)) { s with heap := h', toks := tk }) →
      wpAny (model prog w) A (forIn els (st acc) f) Q E s := by
  intro ps
  induction ps with
  | nil =>
    intro els acc s Q E _ _ _ _ _ hI he hQ
    subst he
    simp only [List.length_nil, List.range_zero, List.map_nil, List.forIn_nil]
    have := hQ [] s.heap s.toks .nil (by rw [List.append_nil]; exact hI) (fun _ h => nomatch h) (fun _ _ _ _ e => e) rfl
    rw [List.append_nil] at this
    exact wpAny_pure this
  | cons p ps ih =>
    intro els acc s Q E hN hnd hw hsi hav hI he hQ
    rw [List.length_cons] at hN
    have he2 : els = el p.1 acc.length :: (List.range ps.length).map (fun j => el ((ps.map (·.1)).getD j 0) (acc.length + 1 + j)) := by
      rw [he, List.length_cons, List.range_succ_eq_map, List.map_cons, List.map_map]
      congr 1
      refine List.map_congr_left fun j _ => ?_
      show el (((p :: ps).map (·.1)).getD (j + 1) 0) (acc.length + (j + 1)) = _
      rw [List.map_cons, List.getD_cons_succ]
      congr 1
      omega
    rw [he2, List.forIn_cons]
    rw [List.map_cons, List.nodup_cons] at hnd
    have hp : ∀ q ∈ ps, q.1 ≠ p.1 := fun q hq e => hnd.1 (List.mem_map.mpr ⟨q, hq, e⟩)
    refine wpAny_bind (step p acc s _ _ (by omega) (hw p (.head _)) (hsi p (.head _)) (hav p (.head _)) hI fun u h' tk hI' hs' hk' hz' => ?_)
    refine ih _ (acc ++ [.str (chr p i) u]) { s with heap := h', toks := tk } Q E (by rw [List.length_append, List.length_singleton]; omega) hnd.2 (fun q hq => hw q (.tail _ hq)) (fun q hq => (hsi q (.tail _ hq)).at' fun o e => hk' _ _ (hp q hq) (hw q (.tail _ hq)) e) (fun q hq => hav q (.tail _ hq)) hI' (by rw [List.length_append]) fun vs h'' tk' hvs hI'' hs'' hk'' hz'' => ?_
    have e : acc ++ [.str (chr p i) u] ++ vs = acc ++ (.str (chr p i) u :: vs) := by rw [List.append_assoc]; rfl
    rw [e] at hI'' ⊢
    refine hQ _ h'' tk' (.cons _ _ hvs) hI'' (fun q hq => ?_) (fun c o hc hcw e => hk'' c o (fun q hq => hc q (.tail _ hq)) hcw (hk' c o (hc p (.head _)) hcw e)) (hz''.trans hz')
    rcases List.mem_cons.mp hq with rfl | hq
    · exact hs'.at' fun o e => hk'' _ _ (fun q' hq' => Ne.symm (hp q' hq')) (hw _ (.head _)) e
    · exact hs'' q hq
/-- a turn over several iterators: one of them is at its end -/
theorem draws_end {τ σ : Type} (el : Addr → Nat → τ) (f : τ → σ → Sem (ForInStep σ)) (st : List Value → σ) (Inv : List Value → Heap → Prop) (wr : List Addr) (i N : Nat)
    (step : ∀ (p : Addr × Str × Tok) acc (s : Shared) (Q : ForInStep σ → Shared → Prop) (E : Value → Shared → Prop), acc.length < N → p.1 ∉ wr → SI s.heap p i → i < p.2.1.cps.size → Inv acc s.heap →
      (∀ u h' tk, Inv (acc ++ [.str (chr p i) u]) h' → SI h' p (i + 1) → (∀ c o, c ≠ p.1 → c ∉ wr → s.heap.get? c = some o → h'.get? c = some o) → h'.objs.size = s.heap.objs.size → Q (.yield (st (acc ++ [.str (chr p i) u]))) { s with heap := h', toks := tk }) →
      wpAny (model prog w) A (f (el p.1 acc.length) (st acc)) Q E s)
    (stop : ∀ (p : Addr × Str × Tok) acc (s : Shared) (Q : ForInStep σ → Shared → Prop) (E : Value → Shared → Prop), p.1 ∉ wr → SI s.heap p i → p.2.1.cps.size ≤ i → Inv acc s.heap →
      (∀ h' tk r, (∀ c o, c ≠ p.1 → c ∉ wr → s.heap.get? c = some o → h'.get? c = some o) → (∃ o, h'.get? r = some o ∧ o.cls = .type "StopIteration") → E (.ref r) { s with heap := h', toks := tk }) →
      wpAny (model prog w) A (f (el p.1 acc.length) (st acc)) Q E s) :
    ∀ (ps : List (Addr × Str × Tok)) (els : List τ) (acc : List Value) (s : Shared) (Q : σ → Shared → Prop) (E : Value → Shared → Prop), acc.length + ps.length = N → (ps.map (·.1)).Nodup → (∀ p ∈ ps, p.1 ∉ wr) → (∀ p ∈ ps, SI s.heap p i) → (∃ p ∈ ps, p.2.1.cps.size ≤ i) → Inv acc s.heap →
      els = (List.range ps.length).map (fun j => el ((ps.map (·.1)).getD j 0) (acc.length + j)) →
      (∀ h' tk r, (∀ c o, (∀ p ∈ ps, c ≠ p.1) → c ∉ wr → s.heap.get? c = some o → h'.get? c = some o) → (∃ o, h'.get? r = some o ∧ o.cls = .type "StopIteration") → E (.ref r) { s with heap := h', toks := tk }) →
      wpAny (model prog w) A (forIn els (st acc) f) Q E s := by
  intro ps
  induction ps with
  | nil =>
    intro els acc s Q E _ _ _ _ hav _ _ _
    obtain ⟨p, hp, _⟩ := hav
    cases hp
  | cons p ps ih =>
    intro els acc s Q E hN hnd hw hsi hav hI he hQ
    rw [List.length_cons] at hN
    have he2 : els = el p.1 acc.length :: (List.range ps.length).map (fun j => el ((ps.map (·.1)).getD j 0) (acc.length + 1 + j)) := by
      rw [he, List.length_cons, List.range_succ_eq_map, List.map_cons, List.map_map]
      congr 1
      refine List.map_congr_left fun j _ => ?_
      show el (((p :: ps).map (·.1)).getD (j + 1) 0) (acc.length + (j + 1)) = _
      rw [List.map_cons, List.getD_cons_succ]
      congr 1
      omega
    rw [he2, List.forIn_cons]
    rw [List.map_cons, List.nodup_cons] at hnd
    have hp : ∀ q ∈ ps, q.1 ≠ p.1 := fun q hq e => hnd.1 (List.mem_map.mpr ⟨q, hq, e⟩)
    rcases Nat.lt_or_ge i p.2.1.cps.size with hlt | hge
    · have hav' : ∃ q ∈ ps, q.2.1.cps.size ≤ i := by
        obtain ⟨q, hq, hqi⟩ := hav
        rcases List.mem_cons.mp hq with rfl | hq
        · exact absurd hlt (Nat.not_lt.mpr hqi)
        · exact ⟨q, hq, hqi⟩
      refine wpAny_bind (step p acc s _ _ (by omega) (hw p (.head _)) (hsi p (.head _)) hlt hI fun u h' tk hI' hs' hk' hz' => ?_)
      refine ih _ (acc ++ [.str (chr p i) u]) { s with heap := h', toks := tk } Q E (by rw [List.length_append, List.length_singleton]; omega) hnd.2 (fun q hq => hw q (.tail _ hq)) (fun q hq => (hsi q (.tail _ hq)).at' fun o e => hk' _ _ (hp q hq) (hw q (.tail _ hq)) e) hav' hI' (by rw [List.length_append]) fun h'' tk' r hk'' hr => ?_
      exact hQ h'' tk' r (fun c o hc hcw e => hk'' c o (fun q hq => hc q (.tail _ hq)) hcw (hk' c o (hc p (.head _)) hcw e)) hr
    · refine wpAny_bind (stop p acc s _ _ (hw p (.head _)) (hsi p (.head _)) hge hI fun h' tk r hk' hr => ?_)
      exact hQ h' tk r (fun c o hc hcw e => hk' c o (hc p (.head _)) hcw e) hr
end
end Mine
end
-- Z2
theorem Mine.off_Z2 : True := by
  w_top off
  trivial
section
open PySem PySem.W PySem.Spec PySem.Calls PyProof.Rows PyProof.V
set_option maxRecDepth 100000
namespace Mine
abbrev zipObj (f0 : Value) (b : Bool) (TI TO : Addr) : Obj := { cls := .type "zip", dict := none, data := .fields #[f0, .bool b, .bool false, .ref TI, .ref TO], slots := #[] }
abbrev tupObj (arr : Array Value) : Obj := { cls := .type "tuple", data := .seq arr }
abbrev refsOf (ps : List (Addr × Str × Tok)) : List Value := (ps.map (·.1)).map Value.ref
theorem zipIdx_refs (as : List Addr) : (as.map Value.ref).zipIdx = (List.range as.length).map (fun j => (Value.ref (as.getD j 0), 0 + j)) := by
  apply List.ext_getElem?
  intro j
  rw [List.getElem?_zipIdx, List.getElem?_map, List.getElem?_map]
  rcases Nat.lt_or_ge j as.length with h | h
  · simp [h]
  · simp [h]
theorem refs_range (as : List Addr) : as.map Value.ref = (List.range as.length).map (fun j => Value.ref (as.getD j 0)) := by
  apply List.ext_getElem?
  intro j
  rw [List.getElem?_map, List.getElem?_map]
  rcases Nat.lt_or_ge j as.length with h | h
  · simp [h]
  · simp [h]
theorem take_set {α : Type} {l : List α} {acc : List α} {v : α} (h : l.take acc.length = acc) (hk : acc.length < l.length) : (l.set acc.length v).take (acc ++ [v]).length = acc ++ [v] := by
  rw [List.length_append, List.length_singleton, List.take_succ_eq_append_getElem (by simpa using hk)]
  rw [List.take_set_of_le (Nat.le_refl _), h]
  simp
section
variable {prog : Program} {w : World} {A : Around} {E : Value → Shared → Prop} {s : Shared}
/-- the first tuple of a zip of texts -/
theorem zipS_first {z TI TO : Addr} {ps : List (Addr × Str × Tok)} {i : Nat} {arr : Array Value} {b : Bool} {Q : Value → Shared → Prop} (hps : ps.length ≤ 6) (hne : ps ≠ []) (hnd : (ps.map (·.1)).Nodup) (hpz : ∀ p ∈ ps, p.1 ∉ [z, TO]) (hzTI : TI ≠ z) (hzTO : TO ≠ z) (hTT : TI ≠ TO)
    (hz : s.heap.get? z = some (zipObj .none b TI TO)) (hTI : s.heap.get? TI = some (tupObj (refsOf ps).toArray)) (hTO : s.heap.get? TO = some (tupObj arr)) (ha : arr.size = ps.length) (hsi : ∀ p ∈ ps, SI s.heap p i) (hav : ∀ p ∈ ps, i < p.2.1.cps.size)
    (hQ : ∀ h' tk vs, StrsAre vs (ps.map (chr · i)) → h'.get? z = some (zipObj (rawInt s.heap.objs.size) false TI TO) → (∃ arr', h'.get? TO = some (tupObj arr') ∧ arr'.size = ps.length) → (∀ p ∈ ps, SI h' p (i + 1)) → h'.get? s.heap.objs.size = some (tupObj vs.toArray) →
      h'.objs.size = s.heap.objs.size + 1 → (∀ c o, c ≠ z → c ≠ TO → (∀ p ∈ ps, c ≠ p.1) → s.heap.get? c = some o → h'.get? c = some o) → Q (.ref s.heap.objs.size) { s with heap := h', toks := tk }) :
    wpAny (model prog w) A (Builtin.«zip.__next__» ⟨[.ref z], []⟩) (fun fin s' => ∃ v, fin = .done (.ret v) ∧ Q v s') E s := by
  show wpAny _ _ (field (.ref z) 2 >>= _) _ _ _
  refine wpAny_bind (wpAny_field hz rfl (x := .bool false) rfl ?_)
  show wpAny _ _ (field (.ref z) 3 >>= _) _ _ _
  refine wpAny_bind (wpAny_field hz rfl (x := .ref TI) rfl ?_)
  refine wpAny_bind (wpAny_seqItems hTI rfl ?_)
  dsimp only
  have hem : (refsOf ps).toArray.isEmpty = false := by
    cases ps with
    | nil => exact absurd rfl hne
    | cons p r => simp
  rw [hem]
  show wpAny _ _ (Builtin.SmallTypes.ownedTupleIsFree (.ref z) >>= _) _ _ _
  refine wpAny_bind ?_
  unfold Builtin.SmallTypes.ownedTupleIsFree
  refine wpAny_bind (wpAny_field hz rfl (x := .none) rfl (wpAny_pure ?_))
  simp only [if_true]
  refine wpAny_bind (wpAny_rule ?_)
  refine wpAny_bind (wpAny_field hz rfl (x := .ref TO) rfl ?_)
  refine wpAny_bind (wpAny_setField_rec hz (by simp) fun h₁ hz₁ hs₁ => ?_)
  replace hz₁ : h₁.get? z = some (zipObj .ellipsis b TI TO) := hz₁
  refine wpAny_bind ?_
  rw [show (refsOf ps).toArray.toList.zipIdx = _ from zipIdx_refs _, List.length_map]
  refine draws (fun a k => (Value.ref a, k)) _ (fun _ : List Value => ((none, ()) : Option Fin × Unit)) (fun acc h => h.get? z = some (zipObj .ellipsis b TI TO) ∧ ∃ arr', h.get? TO = some (tupObj arr') ∧ arr'.size = ps.length ∧ arr'.toList.take acc.length = acc) [z, TO] i ps.length ?_ ps _ [] { s with heap := h₁ } _ _ (by simp) hnd hpz
    (fun p hp => (hsi p hp).at' fun o e => hs₁.extBut _ _ (fun q => hpz p hp (by simp [q])) e) hav ⟨hz₁, arr, hs₁.extBut _ _ hzTO hTO, ha, rfl⟩ ?_ ?_
  · intro p acc s₁ Q₁ E₁ hkN hp hsi₁ hlt hI hQ₁
    obtain ⟨hzI, arr', hTOI, hsz, htk⟩ := hI
    dsimp only
    refine wpAny_bind (wpAny_onRaise ?_)
    show wpAny _ _ (Builtin.SmallTypes.nextOf (.ref p.1) >>= _) _ _ _
    refine wpAny_bind (wpAny_nextOf_ascii_item hsi₁ (c := p.2.1.cps[i]) (Array.getElem?_eq_getElem hlt) fun h₂ hi₂ hs₂ => wpAny_pure ?_)
    have hpz' : p.1 ≠ z := fun q => hp (by simp [q])
    have hpTO : p.1 ≠ TO := fun q => hp (by simp [q])
    have hTO₂ := hs₂.extBut _ _ (Ne.symm hpTO) hTOI
    dsimp only
    refine wpAny_bind (wpAny_seqItems hTO₂ rfl ?_)
    dsimp only
    have hk : acc.length < arr'.size := by omega
    refine wpAny_bind (wpAny_updateSeq (hz := by rw [sizeLine_eq]; omega) (_hz' := by simp only [Array.size_setIfInBounds]; rw [sizeLine_eq]; omega) hTO₂ rfl ?_)
    refine wpAny_bind (wpAny_letGo (wpAny_pure ?_))
    have ec : (Str.mk #[p.2.1.cps[i]]) = chr p i := by simp [chr, hlt]
    have hTO₃ : (h₂.update TO (Obj.mapSeq (·.setIfInBounds acc.length (.str ⟨#[p.2.1.cps[i]]⟩ s₁.toks)))).get? TO = some (tupObj (arr'.setIfInBounds acc.length (.str ⟨#[p.2.1.cps[i]]⟩ s₁.toks))) := by
      rw [Heap.get?_update_self _ hTO₂ rfl]
      simp [Obj.mapSeq]
    have up : ∀ c o, c ≠ TO → h₂.get? c = some o → (h₂.update TO (Obj.mapSeq (·.setIfInBounds acc.length (.str ⟨#[p.2.1.cps[i]]⟩ s₁.toks)))).get? c = some o := fun c o hc e => (Heap.get?_update_other _ _ (Ne.symm hc)).trans e
    have hQ₂ := hQ₁ s₁.toks
    rw [← ec] at hQ₂
    refine hQ₂ _ _ ⟨up _ _ (Ne.symm hzTO) (hs₂.extBut _ _ (Ne.symm hpz') hzI), _, hTO₃, by rw [Array.size_setIfInBounds]; exact hsz, ?_⟩ (SI.at' (i := i + 1) (p := p) hi₂ fun o e => up _ o hpTO e) (fun c o hc hcw e => ?_) ?_
    · show List.take _ (arr'.setIfInBounds acc.length _).toList = _
      rw [Array.toList_setIfInBounds]
      exact take_set htk (by simpa using hk)
    · exact up c o (fun q => hcw (by simp [q])) (hs₂.extBut _ _ hc e)
    · rw [Heap.size_after_update, hs₂.1]
  · simp
  · intro vs h₂ tk hvs hI hsi₂ hk₂ hz₂
    obtain ⟨hzI, arr', hTOI, hsz, htk⟩ := hI
    dsimp only
    refine wpAny_bind (wpAny_seqItems hTOI rfl ?_)
    dsimp only
    have hvl : vs.length = ps.length := by rw [hvs.length, List.length_map]
    have hall : arr'.toList = vs := by
      rw [List.nil_append] at htk
      rw [← htk, List.take_of_length_le]
      rw [Array.length_toList]; omega
    rw [hall]
    refine wpAny_bind (wpAny_newTuple ?_ (by rw [sizeLine_eq]; omega))
    have hz₂' : h₂.objs.size = s.heap.objs.size := hz₂.trans hs₁.1
    have hzlt : z < h₂.objs.size := Heap.lt_size hzI
    show wpAny _ _ (Builtin.SmallTypes.ownedTupleHandOut (.ref z) (.ref h₂.objs.size) >>= _) _ _ _
    refine wpAny_bind ?_
    unfold Builtin.SmallTypes.ownedTupleHandOut
    have hz₆ : (h₂.push (tupObj vs.toArray)).get? z = some (zipObj .ellipsis b TI TO) := Heap.get?_push_of_some _ hzI
    refine wpAny_bind (wpAny_setField_rec hz₆ (by simp) fun h₇ hz₇ hs₇ => ?_)
    replace hz₇ : h₇.get? z = some (zipObj (rawInt h₂.objs.size) b TI TO) := hz₇
    refine wpAny_setField_rec hz₇ (by simp) fun h₈ hz₈ hs₈ => ?_
    replace hz₈ : h₈.get? z = some (zipObj (rawInt h₂.objs.size) false TI TO) := hz₈
    have up : ∀ c o, c ≠ z → h₂.get? c = some o → h₈.get? c = some o := fun c o c1 e => hs₈.extBut _ _ c1 (hs₇.extBut _ _ c1 (Heap.get?_push_of_some _ e))
    have hT₈ : h₈.get? h₂.objs.size = some (tupObj vs.toArray) := hs₈.extBut _ _ (Nat.ne_of_gt hzlt) (hs₇.extBut _ _ (Nat.ne_of_gt hzlt) (Heap.get?_push_size _ rfl))
    have hz8 : h₈.objs.size = h₂.objs.size + 1 := by rw [hs₈.1, hs₇.1, Heap.size_push]
    rw [hz₂'] at hz₈ hT₈ hz8
    refine wpAny_pure ⟨_, rfl, ?_⟩
    show Q (.ref h₂.objs.size) _
    rw [hz₂']
    exact hQ h₈ _ vs hvs hz₈ ⟨arr', up _ _ hzTO hTOI, hsz⟩ (fun p hp => (hsi₂ p hp).at' fun o e => up _ o (fun q => hpz p hp (by simp [q])) e) hT₈ hz8
      fun c o c1 c2 c3 e => up c o c1 (hk₂ c o c3 (by simp [c1, c2]) (hs₁.extBut _ _ c1 e))
/-- the first tuple is not to be had: one text is too short -/
theorem zipS_first_end {z TI TO : Addr} {ps : List (Addr × Str × Tok)} {i : Nat} {arr : Array Value} {b : Bool} {Q : Fin → Shared → Prop} (hh : A.handled = none) (hps : ps.length ≤ 6) (hne : ps ≠ []) (hnd : (ps.map (·.1)).Nodup) (hpz : ∀ p ∈ ps, p.1 ∉ [z, TO]) (hzTI : TI ≠ z) (hzTO : TO ≠ z) (hTT : TI ≠ TO)
    (hz : s.heap.get? z = some (zipObj .none b TI TO)) (hTI : s.heap.get? TI = some (tupObj (refsOf ps).toArray)) (hTO : s.heap.get? TO = some (tupObj arr)) (ha : arr.size = ps.length) (hsi : ∀ p ∈ ps, SI s.heap p i) (hav : ∃ p ∈ ps, p.2.1.cps.size ≤ i)
    (hE : ∀ h' tk r, (∀ c o, c ≠ z → c ≠ TO → (∀ p ∈ ps, c ≠ p.1) → s.heap.get? c = some o → h'.get? c = some o) → (∃ o, h'.get? r = some o ∧ o.cls = .type "StopIteration") → E (.ref r) { s with heap := h', toks := tk }) :
    wpAny (model prog w) A (Builtin.«zip.__next__» ⟨[.ref z], []⟩) Q E s := by
  show wpAny _ _ (field (.ref z) 2 >>= _) _ _ _
  refine wpAny_bind (wpAny_field hz rfl (x := .bool false) rfl ?_)
  show wpAny _ _ (field (.ref z) 3 >>= _) _ _ _
  refine wpAny_bind (wpAny_field hz rfl (x := .ref TI) rfl ?_)
  refine wpAny_bind (wpAny_seqItems hTI rfl ?_)
  dsimp only
  have hem : (refsOf ps).toArray.isEmpty = false := by
    cases ps with
    | nil => exact absurd rfl hne
    | cons p r => simp
  rw [hem]
  show wpAny _ _ (Builtin.SmallTypes.ownedTupleIsFree (.ref z) >>= _) _ _ _
  refine wpAny_bind ?_
  unfold Builtin.SmallTypes.ownedTupleIsFree
  refine wpAny_bind (wpAny_field hz rfl (x := .none) rfl (wpAny_pure ?_))
  simp only [if_true]
  refine wpAny_bind (wpAny_rule ?_)
  refine wpAny_bind (wpAny_field hz rfl (x := .ref TO) rfl ?_)
  refine wpAny_bind (wpAny_setField_rec hz (by simp) fun h₁ hz₁ hs₁ => ?_)
  replace hz₁ : h₁.get? z = some (zipObj .ellipsis b TI TO) := hz₁
  refine wpAny_bind ?_
  rw [show (refsOf ps).toArray.toList.zipIdx = _ from zipIdx_refs _, List.length_map]
  refine draws_end (fun a k => (Value.ref a, k)) _ (fun _ : List Value => ((none, ()) : Option Fin × Unit)) (fun acc h => h.get? z = some (zipObj .ellipsis b TI TO) ∧ ∃ arr', h.get? TO = some (tupObj arr') ∧ arr'.size = ps.length ∧ arr'.toList.take acc.length = acc) [z, TO] i ps.length ?_ ?_ ps _ [] { s with heap := h₁ } _ _ (by simp) hnd hpz
    (fun p hp => (hsi p hp).at' fun o e => hs₁.extBut _ _ (fun q => hpz p hp (by simp [q])) e) hav ⟨hz₁, arr, hs₁.extBut _ _ hzTO hTO, ha, rfl⟩ ?_ ?_
  · intro p acc s₁ Q₁ E₁ hkN hp hsi₁ hlt hI hQ₁
    obtain ⟨hzI, arr', hTOI, hsz, htk⟩ := hI
    dsimp only
    refine wpAny_bind (wpAny_onRaise ?_)
    show wpAny _ _ (Builtin.SmallTypes.nextOf (.ref p.1) >>= _) _ _ _
    refine wpAny_bind (wpAny_nextOf_ascii_item hsi₁ (c := p.2.1.cps[i]) (Array.getElem?_eq_getElem hlt) fun h₂ hi₂ hs₂ => wpAny_pure ?_)
    have hpz' : p.1 ≠ z := fun q => hp (by simp [q])
    have hpTO : p.1 ≠ TO := fun q => hp (by simp [q])
    have hTO₂ := hs₂.extBut _ _ (Ne.symm hpTO) hTOI
    dsimp only
    refine wpAny_bind (wpAny_seqItems hTO₂ rfl ?_)
    dsimp only
    have hk : acc.length < arr'.size := by omega
    refine wpAny_bind (wpAny_updateSeq (hz := by rw [sizeLine_eq]; omega) (_hz' := by simp only [Array.size_setIfInBounds]; rw [sizeLine_eq]; omega) hTO₂ rfl ?_)
    refine wpAny_bind (wpAny_letGo (wpAny_pure ?_))
    have ec : (Str.mk #[p.2.1.cps[i]]) = chr p i := by simp [chr, hlt]
    have hTO₃ : (h₂.update TO (Obj.mapSeq (·.setIfInBounds acc.length (.str ⟨#[p.2.1.cps[i]]⟩ s₁.toks)))).get? TO = some (tupObj (arr'.setIfInBounds acc.length (.str ⟨#[p.2.1.cps[i]]⟩ s₁.toks))) := by
      rw [Heap.get?_update_self _ hTO₂ rfl]
      simp [Obj.mapSeq]
    have up : ∀ c o, c ≠ TO → h₂.get? c = some o → (h₂.update TO (Obj.mapSeq (·.setIfInBounds acc.length (.str ⟨#[p.2.1.cps[i]]⟩ s₁.toks)))).get? c = some o := fun c o hc e => (Heap.get?_update_other _ _ (Ne.symm hc)).trans e
    have hQ₂ := hQ₁ s₁.toks
    rw [← ec] at hQ₂
    refine hQ₂ _ _ ⟨up _ _ (Ne.symm hzTO) (hs₂.extBut _ _ (Ne.symm hpz') hzI), _, hTO₃, by rw [Array.size_setIfInBounds]; exact hsz, ?_⟩ (SI.at' (i := i + 1) (p := p) hi₂ fun o e => up _ o hpTO e) (fun c o hc hcw e => ?_) ?_
    · show List.take _ (arr'.setIfInBounds acc.length _).toList = _
      rw [Array.toList_setIfInBounds]
      exact take_set htk (by simpa using hk)
    · exact up c o (fun q => hcw (by simp [q])) (hs₂.extBut _ _ hc e)
    · rw [Heap.size_after_update, hs₂.1]
  · intro p acc s₁ Q₁ E₁ hp hsi₁ hge hI hE₁
    obtain ⟨hzI, _⟩ := hI
    dsimp only
    have hpz' : p.1 ≠ z := fun q => hp (by simp [q])
    refine wpAny_bind (wpAny_onRaise ?_)
    show wpAny _ _ (Builtin.SmallTypes.nextOf (.ref p.1) >>= _) _ _ _
    refine wpAny_bind (wpAny_nextOf_ascii_end hh hsi₁ (by simpa using hge) fun h₂ r hs₂ hr => ?_)
    obtain ⟨ro, hro, hrc⟩ := hr
    have hz₂ := hs₂ _ _ (Ne.symm hpz') hzI
    have hrz : r ≠ z := fun q => by rw [q, hz₂] at hro; cases hro; simp at hrc
    exact wpAny_setField_rec hz₂ (by simp) fun h₃ _ hs₃ => hE₁ h₃ _ r (fun c o c1 c2 e => hs₃.extBut _ _ (fun q => c2 (by simp [q])) (hs₂ _ _ c1 e)) ⟨ro, hs₃.extBut _ _ hrz hro, hrc⟩
  · simp
  · intro h₂ tk r hk₂ hr
    exact hE h₂ tk r (fun c o c1 c2 c3 e => hk₂ c o c3 (by simp [c1, c2]) (hs₁.extBut _ _ c1 e)) hr
/-- the owned tuple is handed out and still held -/
theorem not_free {z TI TO T : Addr} {b : Bool} {oT : Obj} {Q : Bool → Shared → Prop} (hz : s.heap.get? z = some (zipObj (rawInt T) b TI TO)) (hT : s.heap.get? T = some oT)
    (h : ∀ h' b', h'.get? z = some (zipObj (rawInt T) b' TI TO) → Heap.SameBut z s.heap h' → Q false { s with heap := h' }) :
    wpAny (model prog w) A (Builtin.SmallTypes.ownedTupleIsFree (.ref z)) Q E s := by
  unfold Builtin.SmallTypes.ownedTupleIsFree
  refine wpAny_bind (wpAny_field hz rfl (x := rawInt T) rfl ?_)
  unfold rawInt
  dsimp only
  refine wpAny_bind (PySem.W.kdx_alive (by simpa using hT) ?_)
  simp only [Option.isNone_some, Bool.false_eq_true, if_false]
  refine wpAny_bind (wpAny_field hz rfl (x := .bool b) rfl ?_)
  cases b with
  | true =>
    rw [if_neg (by decide)]
    exact wpAny_bind (wpAny_pure (wpAny_pure (h s.heap true hz (Heap.SameBut.refl ..))))
  | false =>
    rw [if_pos (by decide)]
    refine wpAny_bind (wpAny_setField_rec hz (by simp) fun h₁ hz₁ hs₁ => wpAny_pure (h h₁ true hz₁ hs₁))
/-- a later tuple -/
theorem zipS_more {z TI TO T : Addr} {ps : List (Addr × Str × Tok)} {i : Nat} {b : Bool} {oT : Obj} {Q : Value → Shared → Prop} (hps : ps.length ≤ 6) (hne : ps ≠ []) (hnd : (ps.map (·.1)).Nodup) (hpz : ∀ p ∈ ps, p.1 ∉ [z]) (hzTI : TI ≠ z)
    (hz : s.heap.get? z = some (zipObj (rawInt T) b TI TO)) (hT : s.heap.get? T = some oT) (hTI : s.heap.get? TI = some (tupObj (refsOf ps).toArray)) (hsi : ∀ p ∈ ps, SI s.heap p i) (hav : ∀ p ∈ ps, i < p.2.1.cps.size)
    (hQ : ∀ h' tk vs b', StrsAre vs (ps.map (chr · i)) → h'.get? z = some (zipObj (rawInt T) b' TI TO) → (∀ p ∈ ps, SI h' p (i + 1)) → h'.get? s.heap.objs.size = some (tupObj vs.toArray) →
      h'.objs.size = s.heap.objs.size + 1 → (∀ c o, c ≠ z → (∀ p ∈ ps, c ≠ p.1) → s.heap.get? c = some o → h'.get? c = some o) → Q (.ref s.heap.objs.size) { s with heap := h', toks := tk }) :
    wpAny (model prog w) A (Builtin.«zip.__next__» ⟨[.ref z], []⟩) (fun fin s' => ∃ v, fin = .done (.ret v) ∧ Q v s') E s := by
  show wpAny _ _ (field (.ref z) 2 >>= _) _ _ _
  refine wpAny_bind (wpAny_field hz rfl (x := .bool false) rfl ?_)
  show wpAny _ _ (field (.ref z) 3 >>= _) _ _ _
  refine wpAny_bind (wpAny_field hz rfl (x := .ref TI) rfl ?_)
  refine wpAny_bind (wpAny_seqItems hTI rfl ?_)
  dsimp only
  have hem : (refsOf ps).toArray.isEmpty = false := by
    cases ps with
    | nil => exact absurd rfl hne
    | cons p r => simp
  rw [hem]
  show wpAny _ _ (Builtin.SmallTypes.ownedTupleIsFree (.ref z) >>= _) _ _ _
  refine wpAny_bind (not_free hz hT fun h₁ b' hz₁ hs₁ => ?_)
  simp only [Bool.false_eq_true, if_false]
  refine wpAny_bind ?_
  rw [← Array.forIn_toList, show (refsOf ps).toArray.toList = _ from refs_range _, List.length_map]
  refine draws (fun a _ => Value.ref a) _ (fun acc : List Value => ((none, acc.toArray) : Option Fin × Array Value)) (fun _ h => h.get? z = some (zipObj (rawInt T) b' TI TO)) [z] i ps.length ?_ ps _ [] { s with heap := h₁ } _ _ (by simp) hnd hpz
    (fun p hp => (hsi p hp).at' fun o e => hs₁.extBut _ _ (fun q => hpz p hp (by simp [q])) e) hav hz₁ ?_ ?_
  · intro p acc s₁ Q₁ E₁ hkN hp hsi₁ hlt hI hQ₁
    dsimp only
    refine wpAny_bind (wpAny_holding ?_)
    show wpAny _ _ (Builtin.SmallTypes.nextOf (.ref p.1) >>= _) _ _ _
    refine wpAny_bind (wpAny_nextOf_ascii_item hsi₁ (c := p.2.1.cps[i]) (Array.getElem?_eq_getElem hlt) fun h₂ hi₂ hs₂ => wpAny_pure ?_)
    have ec : (Str.mk #[p.2.1.cps[i]]) = chr p i := by simp [chr, hlt]
    have hQ₂ := hQ₁ s₁.toks
    rw [← ec] at hQ₂
    have := hQ₂ h₂ (s₁.toks + 1) (hs₂.extBut _ _ (fun q => hp (by simp [q])) hI) hi₂ (fun c o hc _ e => hs₂.extBut _ _ hc e) hs₂.1
    refine wpAny_pure ?_
    simpa using this
  · simp
  · intro vs h₂ tk hvs hI hsi₂ hk₂ hz₂
    have hvl : vs.length = ps.length := by rw [hvs.length, List.length_map]
    dsimp only
    refine wpAny_bind (wpAny_newTuple ?_ (by simp; rw [sizeLine_eq]; omega))
    have hz₂' : h₂.objs.size = s.heap.objs.size := hz₂.trans hs₁.1
    have hzI : h₂.get? z = some (zipObj (rawInt T) b' TI TO) := hI
    have up : ∀ c o, h₂.get? c = some o → (h₂.push (tupObj vs.toArray)).get? c = some o := fun c o e => Heap.get?_push_of_some _ e
    refine wpAny_pure ⟨_, rfl, ?_⟩
    have hT₃ : (h₂.push (tupObj vs.toArray)).get? h₂.objs.size = some (tupObj vs.toArray) := Heap.get?_push_size _ rfl
    have hs3 : (h₂.push (tupObj vs.toArray)).objs.size = h₂.objs.size + 1 := Heap.size_push ..
    have fin := hQ (h₂.push (tupObj vs.toArray)) tk vs b' hvs (up _ _ hzI) (fun p hp => (hsi₂ p hp).at' fun o e => up _ o e) (by rw [← hz₂']; exact hT₃) (by rw [hs3, hz₂']) fun c o c1 c3 e => up _ _ (hk₂ c o c3 (by simp [c1]) (hs₁.extBut _ _ c1 e))
    rw [← hz₂'] at fin
    simpa using fin
/-- no later tuple: one text is at its end -/
theorem zipS_more_end {z TI TO T : Addr} {ps : List (Addr × Str × Tok)} {i : Nat} {b : Bool} {oT : Obj} {Q : Fin → Shared → Prop} (hh : A.handled = none) (hps : ps.length ≤ 6) (hne : ps ≠ []) (hnd : (ps.map (·.1)).Nodup) (hpz : ∀ p ∈ ps, p.1 ∉ [z]) (hzTI : TI ≠ z)
    (hz : s.heap.get? z = some (zipObj (rawInt T) b TI TO)) (hT : s.heap.get? T = some oT) (hTI : s.heap.get? TI = some (tupObj (refsOf ps).toArray)) (hsi : ∀ p ∈ ps, SI s.heap p i) (hav : ∃ p ∈ ps, p.2.1.cps.size ≤ i)
    (hE : ∀ h' tk r, (∀ c o, c ≠ z → (∀ p ∈ ps, c ≠ p.1) → s.heap.get? c = some o → h'.get? c = some o) → (∃ o, h'.get? r = some o ∧ o.cls = .type "StopIteration") → E (.ref r) { s with heap := h', toks := tk }) :
    wpAny (model prog w) A (Builtin.«zip.__next__» ⟨[.ref z], []⟩) Q E s := by
  show wpAny _ _ (field (.ref z) 2 >>= _) _ _ _
  refine wpAny_bind (wpAny_field hz rfl (x := .bool false) rfl ?_)
  show wpAny _ _ (field (.ref z) 3 >>= _) _ _ _
  refine wpAny_bind (wpAny_field hz rfl (x := .ref TI) rfl ?_)
  refine wpAny_bind (wpAny_seqItems hTI rfl ?_)
  dsimp only
  have hem : (refsOf ps).toArray.isEmpty = false := by
    cases ps with
    | nil => exact absurd rfl hne
    | cons p r => simp
  rw [hem]
  show wpAny _ _ (Builtin.SmallTypes.ownedTupleIsFree (.ref z) >>= _) _ _ _
  refine wpAny_bind (not_free hz hT fun h₁ b' hz₁ hs₁ => ?_)
  simp only [Bool.false_eq_true, if_false]
  refine wpAny_bind ?_
  rw [← Array.forIn_toList, show (refsOf ps).toArray.toList = _ from refs_range _, List.length_map]
  refine draws_end (fun a _ => Value.ref a) _ (fun acc : List Value => ((none, acc.toArray) : Option Fin × Array Value)) (fun _ _ => True) [z] i ps.length ?_ ?_ ps _ [] { s with heap := h₁ } _ _ (by simp) hnd hpz
    (fun p hp => (hsi p hp).at' fun o e => hs₁.extBut _ _ (fun q => hpz p hp (by simp [q])) e) hav trivial ?_ ?_
  · intro p acc s₁ Q₁ E₁ hkN hp hsi₁ hlt hI hQ₁
    dsimp only
    refine wpAny_bind (wpAny_holding ?_)
    show wpAny _ _ (Builtin.SmallTypes.nextOf (.ref p.1) >>= _) _ _ _
    refine wpAny_bind (wpAny_nextOf_ascii_item hsi₁ (c := p.2.1.cps[i]) (Array.getElem?_eq_getElem hlt) fun h₂ hi₂ hs₂ => wpAny_pure ?_)
    have ec : (Str.mk #[p.2.1.cps[i]]) = chr p i := by simp [chr, hlt]
    have hQ₂ := hQ₁ s₁.toks
    rw [← ec] at hQ₂
    have := hQ₂ h₂ (s₁.toks + 1) trivial hi₂ (fun c o hc _ e => hs₂.extBut _ _ hc e) hs₂.1
    refine wpAny_pure ?_
    simpa using this
  · intro p acc s₁ Q₁ E₁ hp hsi₁ hge hI hE₁
    dsimp only
    refine wpAny_bind (wpAny_holding ?_)
    show wpAny _ _ (Builtin.SmallTypes.nextOf (.ref p.1) >>= _) _ _ _
    refine wpAny_bind (wpAny_nextOf_ascii_end hh hsi₁ (by simpa using hge) fun h₂ r hs₂ hr => ?_)
    exact hE₁ h₂ _ r (fun c o c1 c2 e => hs₂ _ _ c1 e) hr
  · simp
  · intro h₂ tk r hk₂ hr
    exact hE h₂ tk r (fun c o c1 c3 e => hk₂ c o c3 (by simp [c1]) (hs₁.extBut _ _ c1 e)) hr
end
end Mine
end
-- Z3
theorem Mine.off_Z3 : True := by
  w_top off
  trivial
section
open PySem PySem.W PySem.Spec PySem.Calls PyProof.Rows PyProof.V
set_option maxRecDepth 100000
namespace Mine
theorem typeCall_zip_3 (a b c : Value) : checkTypeCall "zip" ⟨[a, b, c], []⟩ = pure () := by kernel_rfl
theorem newCall_zip_3 (a b c : Value) : checkBuiltinCall "zip.__new__" ⟨[.type "zip", a, b, c], []⟩ = pure () := by kernel_rfl
theorem newClass_zip (rest : List Value) : Builtin.SmallTypes.newClass "zip" ⟨.type "zip" :: rest, []⟩ = pure (.type "zip", rest) := by
  unfold Builtin.SmallTypes.newClass
  show (isType (.type "zip") >>= fun b => _) = _
  have h1 : isType (.type "zip") = pure true := by rfl
  rw [h1]
  show (isSubtype (.type "zip") (.type "zip") >>= fun b => _) = _
  rw [sub_zip]
  rfl
theorem zip_new_split (rest : List Value) : Builtin.«zip.__new__» ⟨.type "zip" :: rest, []⟩ = (do
    let its ← Builtin.SmallTypes.iterAll rest
    ret (← Builtin.SmallTypes.newRecord (.type "zip") (Builtin.SmallTypes.ownedTupleFields ++ [.bool false, ← newTuple its, ← newTuple (its.map fun _ => .none)]))) := by
  unfold Builtin.«zip.__new__»
  rw [newClass_zip]
  rfl
abbrev sIter (x : Str) (t : Tok) : Obj := { cls := .type "str_ascii_iterator", data := .fields #[.str x t, .int 0 0] }
def ascii (x : Str) : Bool := x.cps.all (· < 128)
abbrev zs2 (h : Heap) (x y : Str) (t u : Tok) : Heap := (h.push (sIter x t)).push (sIter y u)
abbrev zs3 (h : Heap) (x y : Str) (t u : Tok) : Heap := (zs2 h x y t u).push { cls := .type "tuple", data := .seq #[.ref h.objs.size, .ref (h.push (sIter x t)).objs.size] }
abbrev zs4 (h : Heap) (x y : Str) (t u : Tok) : Heap := (zs3 h x y t u).push { cls := .type "tuple", data := .seq #[.none, .none] }
abbrev zs5 (h : Heap) (x y : Str) (t u : Tok) : Heap := (zs4 h x y t u).push (zipObj .none false (zs2 h x y t u).objs.size (zs3 h x y t u).objs.size)
theorem iterAll_s2 {prog : Program} {w : World} {A : Around} {E : Value → Shared → Prop} {s : Shared} {x y : Str} {t u : Tok} {Q : List Value → Shared → Prop} (hx : ascii x = true) (hy : ascii y = true)
    (h : Q [.ref s.heap.objs.size, .ref (s.heap.push (sIter x t)).objs.size] { s with heap := zs2 s.heap x y t u }) : wpAny (model prog w) A (Builtin.SmallTypes.iterAll [.str x t, .str y u]) Q E s := by
  unfold Builtin.SmallTypes.iterAll
  simp only [List.forIn_cons, List.forIn_nil]
  refine wpAny_bind (wpAny_bind (wpAny_bind (wpAny_holding (wpAny_pyIter_ascii hx (wpAny_pure ?_)))))
  refine wpAny_bind (wpAny_bind (wpAny_holding (wpAny_pyIter_ascii hy (wpAny_pure (wpAny_pure (wpAny_pure ?_))))))
  exact h
theorem meets_zip_s2 (x y : Str) (t u : Tok) (hx : ascii x = true) (hy : ascii y = true) :
    Meets (Builtin.«zip.__new__» ⟨[.type "zip", .str x t, .str y u], []⟩) (fun _ R s => R (.ok (.ret (.ref (zs4 s.heap x y t u).objs.size))) { s with heap := zs5 s.heap x y t u }) :=
  .of_wp fun prog w A R s h => by
    rw [zip_new_split]
    refine wpAny_bind (iterAll_s2 hx hy ?_)
    refine wpAny_bind (wpAny_newTuple ?_ (by rw [sizeLine_eq]; simp))
    refine wpAny_bind (wpAny_newTuple ?_ (by rw [sizeLine_eq]; simp))
    refine wpAny_bind ?_
    unfold Builtin.SmallTypes.newRecord
    refine wpAny_newObj_type ?_ (by show _ ≤ _; rw [sizeLine_eq]; simp [Builtin.SmallTypes.ownedTupleFields])
    exact wpAny_pure ⟨_, rfl, h⟩
abbrev zt3 (h : Heap) (x y v : Str) (t u r : Tok) : Heap := (zs2 h x y t u).push (sIter v r)
abbrev zt4 (h : Heap) (x y v : Str) (t u r : Tok) : Heap := (zt3 h x y v t u r).push { cls := .type "tuple", data := .seq #[.ref h.objs.size, .ref (h.push (sIter x t)).objs.size, .ref (zs2 h x y t u).objs.size] }
abbrev zt5 (h : Heap) (x y v : Str) (t u r : Tok) : Heap := (zt4 h x y v t u r).push { cls := .type "tuple", data := .seq #[.none, .none, .none] }
abbrev zt6 (h : Heap) (x y v : Str) (t u r : Tok) : Heap := (zt5 h x y v t u r).push (zipObj .none false (zt3 h x y v t u r).objs.size (zt4 h x y v t u r).objs.size)
theorem iterAll_s3 {prog : Program} {w : World} {A : Around} {E : Value → Shared → Prop} {s : Shared} {x y v : Str} {t u r : Tok} {Q : List Value → Shared → Prop} (hx : ascii x = true) (hy : ascii y = true) (hv : ascii v = true)
    (h : Q [.ref s.heap.objs.size, .ref (s.heap.push (sIter x t)).objs.size, .ref (zs2 s.heap x y t u).objs.size] { s with heap := zt3 s.heap x y v t u r }) : wpAny (model prog w) A (Builtin.SmallTypes.iterAll [.str x t, .str y u, .str v r]) Q E s := by
  unfold Builtin.SmallTypes.iterAll
  simp only [List.forIn_cons, List.forIn_nil]
  refine wpAny_bind (wpAny_bind (wpAny_bind (wpAny_holding (wpAny_pyIter_ascii hx (wpAny_pure ?_)))))
  refine wpAny_bind (wpAny_bind (wpAny_holding (wpAny_pyIter_ascii hy (wpAny_pure ?_))))
  refine wpAny_bind (wpAny_bind (wpAny_holding (wpAny_pyIter_ascii hv (wpAny_pure (wpAny_pure (wpAny_pure ?_))))))
  exact h
theorem meets_zip_s3 (x y v : Str) (t u r : Tok) (hx : ascii x = true) (hy : ascii y = true) (hv : ascii v = true) :
    Meets (Builtin.«zip.__new__» ⟨[.type "zip", .str x t, .str y u, .str v r], []⟩) (fun _ R s => R (.ok (.ret (.ref (zt5 s.heap x y v t u r).objs.size))) { s with heap := zt6 s.heap x y v t u r }) :=
  .of_wp fun prog w A R s h => by
    rw [zip_new_split]
    refine wpAny_bind (iterAll_s3 hx hy hv ?_)
    refine wpAny_bind (wpAny_newTuple ?_ (by rw [sizeLine_eq]; simp))
    refine wpAny_bind (wpAny_newTuple ?_ (by rw [sizeLine_eq]; simp))
    refine wpAny_bind ?_
    unfold Builtin.SmallTypes.newRecord
    refine wpAny_newObj_type ?_ (by show _ ≤ _; rw [sizeLine_eq]; simp [Builtin.SmallTypes.ownedTupleFields])
    exact wpAny_pure ⟨_, rfl, h⟩
/-- a zip of texts, as it was made: its parts are the newest objects -/
structure ZipMade (h : Heap) (n : Nat) (z : Addr) (ps : List (Addr × Str × Tok)) : Prop where
  adr : ps.map (·.1) = (List.range ps.length).map (n + ·)
  last : z = n + ps.length + 2
  zip : h.get? z = some (zipObj .none false (n + ps.length) (n + ps.length + 1))
  ti : h.get? (n + ps.length) = some (tupObj (refsOf ps).toArray)
  to : ∃ arr, h.get? (n + ps.length + 1) = some (tupObj arr) ∧ arr.size = ps.length
  si : ∀ p ∈ ps, SI h p 0
  size : h.objs.size = n + ps.length + 3
section
variable {prog : Program} {w : World} {A : Around} {E : Value → Shared → Prop} {s : Shared}
theorem call_zip_s2 {x y : Str} {t u : Tok} {Q : Value → Shared → Prop} (hx : ascii x = true) (hy : ascii y = true)
    (h : ∀ h' z, ZipMade h' s.heap.objs.size z [(s.heap.objs.size, x, t), (s.heap.objs.size + 1, y, u)] → (∀ c o, s.heap.get? c = some o → h'.get? c = some o) → Q (.ref z) { s with heap := h' }) :
    wpAny (model prog w) A (call (.type "zip") [.str x t, .str y u]) Q E s := by
  refine callType_new F.called_zip (by decide) (F.typeCall_zip_2 _ _) (F.newCall_zip_2 _ _) (fun obj => F.args_object_init_3 obj _ _) F.entry_zip_new (meets_zip_s2 x y t u hx hy) ?_
  have z1 : (s.heap.push (sIter x t)).objs.size = s.heap.objs.size + 1 := Heap.size_push ..
  have z2 : (zs2 s.heap x y t u).objs.size = s.heap.objs.size + 2 := by rw [Heap.size_push, z1]
  have z3 : (zs3 s.heap x y t u).objs.size = s.heap.objs.size + 3 := by rw [Heap.size_push, z2]
  have z4 : (zs4 s.heap x y t u).objs.size = s.heap.objs.size + 4 := by rw [Heap.size_push, z3]
  have z5 : (zs5 s.heap x y t u).objs.size = s.heap.objs.size + 5 := by rw [Heap.size_push, z4]
  have g5 : (zs5 s.heap x y t u).get? (zs4 s.heap x y t u).objs.size = some _ := Heap.get?_push_size _ rfl
  have g4 : (zs5 s.heap x y t u).get? (zs3 s.heap x y t u).objs.size = some _ := Heap.get?_push_of_some _ (Heap.get?_push_size _ rfl)
  have g3 : (zs5 s.heap x y t u).get? (zs2 s.heap x y t u).objs.size = some _ := Heap.get?_push_of_some _ (Heap.get?_push_of_some _ (Heap.get?_push_size _ rfl))
  have g2 : (zs5 s.heap x y t u).get? (s.heap.push (sIter x t)).objs.size = some _ := Heap.get?_push_of_some _ (Heap.get?_push_of_some _ (Heap.get?_push_of_some _ (Heap.get?_push_size _ rfl)))
  have g1 : (zs5 s.heap x y t u).get? s.heap.objs.size = some _ := Heap.get?_push_of_some _ (Heap.get?_push_of_some _ (Heap.get?_push_of_some _ (Heap.get?_push_of_some _ (Heap.get?_push_size _ rfl))))
  show _ ∧ _
  rw [z2, z3, z4] at g5
  rw [z1, z2] at g3
  rw [z3] at g4
  rw [z1] at g2
  rw [z4]
  refine ⟨⟨_, g5, rfl⟩, h _ _ ⟨rfl, rfl, g5, g3, ⟨_, g4, rfl⟩, fun p hp => ?_, z5⟩ fun c o e => Heap.get?_push_of_some _ (Heap.get?_push_of_some _ (Heap.get?_push_of_some _ (Heap.get?_push_of_some _ (Heap.get?_push_of_some _ e))))⟩
  simp only [List.mem_cons, List.not_mem_nil, or_false] at hp
  rcases hp with rfl | rfl
  · exact ⟨_, g1, rfl, rfl⟩
  · exact ⟨_, g2, rfl, rfl⟩
theorem call_zip_s3 {x y v : Str} {t u r : Tok} {Q : Value → Shared → Prop} (hx : ascii x = true) (hy : ascii y = true) (hv : ascii v = true)
    (h : ∀ h' z, ZipMade h' s.heap.objs.size z [(s.heap.objs.size, x, t), (s.heap.objs.size + 1, y, u), (s.heap.objs.size + 2, v, r)] → (∀ c o, s.heap.get? c = some o → h'.get? c = some o) → Q (.ref z) { s with heap := h' }) :
    wpAny (model prog w) A (call (.type "zip") [.str x t, .str y u, .str v r]) Q E s := by
  refine callType_new F.called_zip (by decide) (typeCall_zip_3 _ _ _) (newCall_zip_3 _ _ _) (fun obj => PySem.F.initArgs_range_3 obj _ _ _) F.entry_zip_new (meets_zip_s3 x y v t u r hx hy hv) ?_
  have z1 : (s.heap.push (sIter x t)).objs.size = s.heap.objs.size + 1 := Heap.size_push ..
  have z2 : (zs2 s.heap x y t u).objs.size = s.heap.objs.size + 2 := by rw [Heap.size_push, z1]
  have z3 : (zt3 s.heap x y v t u r).objs.size = s.heap.objs.size + 3 := by rw [Heap.size_push, z2]
  have z4 : (zt4 s.heap x y v t u r).objs.size = s.heap.objs.size + 4 := by rw [Heap.size_push, z3]
  have z5 : (zt5 s.heap x y v t u r).objs.size = s.heap.objs.size + 5 := by rw [Heap.size_push, z4]
  have z6 : (zt6 s.heap x y v t u r).objs.size = s.heap.objs.size + 6 := by rw [Heap.size_push, z5]
  have g6 : (zt6 s.heap x y v t u r).get? (zt5 s.heap x y v t u r).objs.size = some _ := Heap.get?_push_size _ rfl
  have g5 : (zt6 s.heap x y v t u r).get? (zt4 s.heap x y v t u r).objs.size = some _ := Heap.get?_push_of_some _ (Heap.get?_push_size _ rfl)
  have g4 : (zt6 s.heap x y v t u r).get? (zt3 s.heap x y v t u r).objs.size = some _ := Heap.get?_push_of_some _ (Heap.get?_push_of_some _ (Heap.get?_push_size _ rfl))
  have g3 : (zt6 s.heap x y v t u r).get? (zs2 s.heap x y t u).objs.size = some _ := Heap.get?_push_of_some _ (Heap.get?_push_of_some _ (Heap.get?_push_of_some _ (Heap.get?_push_size _ rfl)))
  have g2 : (zt6 s.heap x y v t u r).get? (s.heap.push (sIter x t)).objs.size = some _ := Heap.get?_push_of_some _ (Heap.get?_push_of_some _ (Heap.get?_push_of_some _ (Heap.get?_push_of_some _ (Heap.get?_push_size _ rfl))))
  have g1 : (zt6 s.heap x y v t u r).get? s.heap.objs.size = some _ := Heap.get?_push_of_some _ (Heap.get?_push_of_some _ (Heap.get?_push_of_some _ (Heap.get?_push_of_some _ (Heap.get?_push_of_some _ (Heap.get?_push_size _ rfl)))))
  show _ ∧ _
  rw [z3, z4, z5] at g6
  rw [z1, z2, z3] at g4
  rw [z4] at g5
  rw [z2] at g3
  rw [z1] at g2
  rw [z5]
  refine ⟨⟨_, g6, rfl⟩, h _ _ ⟨rfl, rfl, g6, g4, ⟨_, g5, rfl⟩, fun p hp => ?_, z6⟩ fun c o e => Heap.get?_push_of_some _ (Heap.get?_push_of_some _ (Heap.get?_push_of_some _ (Heap.get?_push_of_some _ (Heap.get?_push_of_some _ (Heap.get?_push_of_some _ e)))))⟩
  simp only [List.mem_cons, List.not_mem_nil, or_false] at hp
  rcases hp with rfl | rfl | rfl
  · exact ⟨_, g1, rfl, rfl⟩
  · exact ⟨_, g2, rfl, rfl⟩
  · exact ⟨_, g3, rfl, rfl⟩
end
end Mine
end
-- Z4
theorem Mine.off_Z4 : True := by
  w_top off
  trivial
section
open PySem PySem.W PySem.Spec PySem.Calls PyProof.Rows PyProof.V
set_option maxRecDepth 100000
namespace Mine
/-- the list that grows from a zip of texts: what stands after i turns -/
structure LZ (h₁ : Heap) (S z TI TO : Addr) (ps : List (Addr × Str × Tok)) (Ts : List Addr) (h : Heap) : Prop where
  li : ∃ c, h.get? S = some (W.listOf (Ts.map Value.ref).toArray c)
  tup : ∀ j T, Ts[j]? = some T → ∃ vs : List Value, h.get? T = some (tupObj vs.toArray) ∧ StrsAre vs (ps.map (chr · j))
  new : ∀ T ∈ Ts, S < T
  kept : ∀ c o, c ≠ S → c ≠ z → c ≠ TO → (∀ p ∈ ps, c ≠ p.1) → h₁.get? c = some o → h.get? c = some o
structure ZSt (z TI TO : Addr) (ps : List (Addr × Str × Tok)) (Ts : List Addr) (h : Heap) : Prop where
  zip : ∃ f0 b, h.get? z = some (zipObj f0 b TI TO) ∧ ((Ts = [] ∧ f0 = .none) ∨ ∃ T ∈ Ts, f0 = rawInt T)
  ti : h.get? TI = some (tupObj (refsOf ps).toArray)
  to : ∃ arr, h.get? TO = some (tupObj arr) ∧ arr.size = ps.length
  si : ∀ p ∈ ps, SI h p Ts.length
/-- where the parts lie -/
structure Apart (S z TI TO : Addr) (ps : List (Addr × Str × Tok)) : Prop where
  nd : (ps.map (·.1)).Nodup
  pz : ∀ p ∈ ps, p.1 ≠ z
  pTO : ∀ p ∈ ps, p.1 ≠ TO
  pTI : ∀ p ∈ ps, p.1 ≠ TI
  TIz : TI ≠ z
  TOz : TO ≠ z
  TIO : TI ≠ TO
  zS : z < S
  TIS : TI < S
  TOS : TO < S
  pS : ∀ p ∈ ps, p.1 < S
section
variable {prog : Program} {w : World} {A : Around} {E : Value → Shared → Prop} {s : Shared}
theorem zip_turn {h₁ : Heap} {S z TI TO : Addr} {ps : List (Addr × Str × Tok)} {Ts : List Addr} {Q : Option Value → Shared → Prop} (D : Apart S z TI TO ps) (hps : ps.length ≤ 6) (hne : ps ≠ []) (x : LZ h₁ S z TI TO ps Ts s.heap) (y : ZSt z TI TO ps Ts s.heap) (hS : S < s.heap.objs.size)
    (hav : ∀ p ∈ ps, Ts.length < p.2.1.cps.size)
    (hQ : ∀ h' tk, LZ h₁ S z TI TO ps Ts h' → (∃ vs : List Value, h'.get? s.heap.objs.size = some (tupObj vs.toArray) ∧ StrsAre vs (ps.map (chr · Ts.length))) → h'.objs.size = s.heap.objs.size + 1 →
      (∃ f0 b, h'.get? z = some (zipObj f0 b TI TO) ∧ ∃ T ∈ Ts ++ [s.heap.objs.size], f0 = rawInt T) → h'.get? TI = some (tupObj (refsOf ps).toArray) → (∃ arr, h'.get? TO = some (tupObj arr) ∧ arr.size = ps.length) → (∀ p ∈ ps, SI h' p (Ts.length + 1)) → Q (some (.ref s.heap.objs.size)) { s with heap := h', toks := tk }) :
    wpAny (model prog w) A (pyNext (.ref z)) Q E s := by
  obtain ⟨f0, b, hz, hf⟩ := y.zip
  have hT : s.TypeIs (.ref z) "zip" := ⟨_, hz, rfl⟩
  obtain ⟨arr, hTO, harr⟩ := y.to
  have still : ∀ h', (∀ c o, c ≠ z → c ≠ TO → (∀ p ∈ ps, c ≠ p.1) → s.heap.get? c = some o → h'.get? c = some o) → LZ h₁ S z TI TO ps Ts h' := fun h' k => by
    have off : ∀ c, S ≤ c → c ≠ z ∧ c ≠ TO ∧ ∀ p ∈ ps, c ≠ p.1 := fun c hc =>
      ⟨Nat.ne_of_gt (Nat.lt_of_lt_of_le D.zS hc), Nat.ne_of_gt (Nat.lt_of_lt_of_le D.TOS hc), fun p hp => Nat.ne_of_gt (Nat.lt_of_lt_of_le (D.pS p hp) hc)⟩
    refine ⟨?_, fun j T e => ?_, x.new, fun c o c1 c2 c3 c4 e => k c o c2 c3 c4 (x.kept c o c1 c2 c3 c4 e)⟩
    · obtain ⟨c, hc⟩ := x.li
      obtain ⟨o1, o2, o3⟩ := off S (Nat.le_refl _)
      exact ⟨c, k _ _ o1 o2 o3 hc⟩
    · obtain ⟨vs, hv, hs⟩ := x.tup j T e
      obtain ⟨o1, o2, o3⟩ := off T (Nat.le_of_lt (x.new T (List.mem_of_getElem? e)))
      exact ⟨vs, k _ _ o1 o2 o3 hv, hs⟩
  unfold pyNext
  refine wpAny_bind (wpAny_attempt (wpAny_callSpecial?_slot (name := Str.ofString "__next__") hT F.slot_zip_next (wpAny_call_entry F.slot_zip_next hT F.entry_zip_next ?_ (F.args_zip_next_1 _))))
  rcases hf with ⟨hTs, rfl⟩ | ⟨T, hTm, rfl⟩
  · refine zipS_first hps hne D.nd (fun p hp => by simp [D.pz p hp, D.pTO p hp]) D.TIz D.TOz D.TIO hz y.ti hTO harr y.si hav fun h' tk vs hvs hz' hTO' hsi' hT' hsz' hk' => wpAny_pure ?_
    exact hQ h' tk (still h' hk') ⟨vs, hT', hvs⟩ hsz' ⟨_, _, hz', _, List.mem_append_right _ (.head _), rfl⟩ (hk' _ _ D.TIz D.TIO (fun p hp => Ne.symm (D.pTI p hp)) y.ti) hTO' hsi'
  · obtain ⟨j, hj⟩ := List.getElem?_of_mem hTm
    obtain ⟨vT, hvT, _⟩ := x.tup j T hj
    refine zipS_more hps hne D.nd (fun p hp => by simp [D.pz p hp]) D.TIz hz hvT y.ti y.si hav fun h' tk vs b' hvs hz' hsi' hT' hsz' hk' => wpAny_pure ?_
    exact hQ h' tk (still h' fun c o c1 _ c3 e => hk' c o c1 c3 e) ⟨vs, hT', hvs⟩ hsz' ⟨_, _, hz', _, List.mem_append_left _ hTm, rfl⟩ (hk' _ _ D.TIz (fun p hp => Ne.symm (D.pTI p hp)) y.ti) ⟨arr, hk' _ _ D.TOz (fun p hp => Ne.symm (D.pTO p hp)) hTO, harr⟩ hsi'
theorem zip_end {h₁ : Heap} {S z TI TO : Addr} {ps : List (Addr × Str × Tok)} {Ts : List Addr} {Q : Option Value → Shared → Prop} (hh : A.handled = none) (D : Apart S z TI TO ps) (hps : ps.length ≤ 6) (hne : ps ≠ []) (x : LZ h₁ S z TI TO ps Ts s.heap) (y : ZSt z TI TO ps Ts s.heap)
    (hav : ∃ p ∈ ps, p.2.1.cps.size ≤ Ts.length)
    (hQ : ∀ h' tk, (∀ c o, c ≠ z → c ≠ TO → (∀ p ∈ ps, c ≠ p.1) → s.heap.get? c = some o → h'.get? c = some o) → Q none { s with heap := h', toks := tk }) :
    wpAny (model prog w) A (pyNext (.ref z)) Q E s := by
  obtain ⟨f0, b, hz, hf⟩ := y.zip
  have hT : s.TypeIs (.ref z) "zip" := ⟨_, hz, rfl⟩
  obtain ⟨arr, hTO, harr⟩ := y.to
  unfold pyNext
  refine wpAny_bind (wpAny_attempt (wpAny_callSpecial?_slot (name := Str.ofString "__next__") hT F.slot_zip_next (wpAny_call_entry F.slot_zip_next hT F.entry_zip_next ?_ (F.args_zip_next_1 _))))
  rcases hf with ⟨hTs, rfl⟩ | ⟨T, hTm, rfl⟩
  · refine zipS_first_end (A := A.in1) hh hps hne D.nd (fun p hp => by simp [D.pz p hp, D.pTO p hp]) D.TIz D.TOz D.TIO hz y.ti hTO harr y.si hav fun h' tk r hk' hr => ?_
    obtain ⟨o, ho, hc⟩ := hr
    refine wpAny_bind (wpAny_isInstance (T := "StopIteration") (b := true) ⟨o, ho, hc⟩ isSubtype_stop ?_)
    exact wpAny_pure (hQ h' tk hk')
  · obtain ⟨j, hj⟩ := List.getElem?_of_mem hTm
    obtain ⟨vT, hvT, _⟩ := x.tup j T hj
    refine zipS_more_end (A := A.in1) hh hps hne D.nd (fun p hp => by simp [D.pz p hp]) D.TIz hz hvT y.ti y.si hav fun h' tk r hk' hr => ?_
    obtain ⟨o, ho, hc⟩ := hr
    refine wpAny_bind (wpAny_isInstance (T := "StopIteration") (b := true) ⟨o, ho, hc⟩ isSubtype_stop ?_)
    exact wpAny_pure (hQ h' tk fun c o c1 _ c3 e => hk' c o c1 c3 e)
theorem lz_push {h₁ h' : Heap} {S z TI TO T : Addr} {ps : List (Addr × Str × Tok)} {Ts : List Addr} (D : Apart S z TI TO ps) (x : LZ h₁ S z TI TO ps Ts h') (hST : S < T) (ht : ∃ vs : List Value, h'.get? T = some (tupObj vs.toArray) ∧ StrsAre vs (ps.map (chr · Ts.length))) :
    LZ h₁ S z TI TO ps (Ts ++ [T]) (h'.update S (Obj.mapSeq (·.push (.ref T)))) := by
  obtain ⟨c, hS⟩ := x.li
  have oth : ∀ c o, c ≠ S → h'.get? c = some o → (h'.update S (Obj.mapSeq (·.push (.ref T)))).get? c = some o := fun c o hc e => (Heap.get?_update_other _ _ (Ne.symm hc)).trans e
  refine ⟨?_, fun j U e => ?_, fun U hU => ?_, fun c o c1 c2 c3 c4 e => oth c o c1 (x.kept c o c1 c2 c3 c4 e)⟩
  · have := PySem.IsL.update hS (·.push (.ref T))
    have e : ((Ts.map Value.ref).toArray.push (.ref T)) = ((Ts ++ [T]).map Value.ref).toArray := by simp
    rw [e] at this
    exact ⟨_, this⟩
  · rcases Nat.lt_or_ge j Ts.length with hj | hj
    · rw [List.getElem?_append_left hj] at e
      obtain ⟨vs, hv, hs⟩ := x.tup j U e
      exact ⟨vs, oth _ _ (Nat.ne_of_gt (x.new U (List.mem_of_getElem? e))) hv, hs⟩
    · rw [List.getElem?_append_right hj] at e
      have hz : j - Ts.length = 0 := by
        rcases Nat.eq_zero_or_pos (j - Ts.length) with h | h
        · exact h
        · rw [List.getElem?_eq_none (by simp only [List.length_singleton]; omega)] at e; cases e
      rw [hz] at e
      simp at e
      subst e
      obtain rfl : j = Ts.length := by omega
      obtain ⟨vs, hv, hs⟩ := ht
      exact ⟨vs, oth _ _ (Nat.ne_of_gt hST) hv, hs⟩
  · rcases List.mem_append.mp hU with h | h
    · exact x.new U h
    · rw [List.mem_singleton] at h; rw [h]; exact hST
theorem extend_zip {h₁ : Heap} {S z TI TO : Addr} {ps : List (Addr × Str × Tok)} {R : Result → Shared → Prop} {cnt : Nat} (hh : A.handled = none) (D : Apart S z TI TO ps) (hps : ps.length ≤ 6) (hne : ps ≠ []) (hc : cnt ≤ 6) (av : ∀ i, i < cnt → ∀ p ∈ ps, i < p.2.1.cps.size) (en : ∃ p ∈ ps, p.2.1.cps.size ≤ cnt) :
    ∀ (k : Nat) (Ts : List Addr) (s : Shared), Ts.length + k = cnt → LZ h₁ S z TI TO ps Ts s.heap → ZSt z TI TO ps Ts s.heap → S < s.heap.objs.size →
      (∀ h' tk Ts', Ts'.length = cnt → LZ h₁ S z TI TO ps Ts' h' → R (.ok (.ret .none)) { s with heap := h', toks := tk }) →
      codeAny (model prog w) A (.builtin "list.extend.loop" ⟨[.ref S, .ref z, .none], []⟩) R s := by
  intro k
  induction k with
  | zero =>
    intro Ts s hk x y hS hR
    have hl : Ts.length = cnt := by omega
    refine codeAny_builtin F.entry_extend_loop ?_
    rw [Around.under_plainId F.plain_extend_loop _]
    show wpAny _ A.in1 (pyNext (.ref z) >>= _) _ _ s
    refine wpAny_bind (zip_end (A := A.in1) hh D hps hne x y (by rw [hl]; exact en) fun h' tk k' => ?_)
    refine wpAny_pure (hR h' tk Ts hl ?_)
    have off : ∀ c, S ≤ c → c ≠ z ∧ c ≠ TO ∧ ∀ p ∈ ps, c ≠ p.1 := fun c hc =>
      ⟨Nat.ne_of_gt (Nat.lt_of_lt_of_le D.zS hc), Nat.ne_of_gt (Nat.lt_of_lt_of_le D.TOS hc), fun p hp => Nat.ne_of_gt (Nat.lt_of_lt_of_le (D.pS p hp) hc)⟩
    refine ⟨?_, fun j T e => ?_, x.new, fun c o c1 c2 c3 c4 e => k' c o c2 c3 c4 (x.kept c o c1 c2 c3 c4 e)⟩
    · obtain ⟨c, hc'⟩ := x.li
      obtain ⟨o1, o2, o3⟩ := off S (Nat.le_refl _)
      exact ⟨c, k' _ _ o1 o2 o3 hc'⟩
    · obtain ⟨vs, hv, hs⟩ := x.tup j T e
      obtain ⟨o1, o2, o3⟩ := off T (Nat.le_of_lt (x.new T (List.mem_of_getElem? e)))
      exact ⟨vs, k' _ _ o1 o2 o3 hv, hs⟩
  | succ k ih =>
    intro Ts s hk x y hS hR
    refine codeAny_builtin F.entry_extend_loop ?_
    rw [Around.under_plainId F.plain_extend_loop _]
    show wpAny _ A.in1 (pyNext (.ref z) >>= _) _ _ s
    refine wpAny_bind (zip_turn (A := A.in1) D hps hne x y hS (av _ (by omega)) fun h' tk x' ht hsz hz' hti hto hsi => ?_)
    obtain ⟨c, hS'⟩ := x'.li
    show wpAny _ A.in1 (updateSeq S (·.push (.ref s.heap.objs.size)) >>= _) _ _ _
    refine wpAny_bind (wpAny_updateSeq (hz := by simp; rw [sizeLine_eq]; omega) (_hz' := by simp; rw [sizeLine_eq]; omega) hS' rfl ?_)
    have oth : ∀ c o, c ≠ S → h'.get? c = some o → (h'.update S (Obj.mapSeq (·.push (.ref s.heap.objs.size)))).get? c = some o := fun c o hc e => (Heap.get?_update_other _ _ (Ne.symm hc)).trans e
    refine wpAny_pure ⟨plainId_quiet F.plain_extend_loop _, ih (Ts ++ [s.heap.objs.size]) _ (by rw [List.length_append, List.length_singleton]; omega) (lz_push D x' hS ht) ⟨?_, oth _ _ (Nat.ne_of_lt D.TIS) hti, ?_, fun p hp => ?_⟩ ?_ fun h'' tk' Ts' hl x'' => hR h'' tk' Ts' hl x''⟩
    · obtain ⟨f0, b, hz, hT⟩ := hz'
      exact ⟨f0, b, oth _ _ (Nat.ne_of_lt D.zS) hz, .inr hT⟩
    · obtain ⟨arr, ha, hs⟩ := hto
      exact ⟨arr, oth _ _ (Nat.ne_of_lt D.TOS) ha, hs⟩
    · rw [List.length_append, List.length_singleton]
      exact (hsi p hp).at' fun o e => oth _ _ (Nat.ne_of_lt (D.pS p hp)) e
    · show S < (h'.update S _).objs.size
      rw [Heap.size_after_update, hsz]
      exact Nat.lt_succ_of_lt hS
end
end Mine
end
-- Z5
theorem Mine.off_Z5 : True := by
  w_top off
  trivial
section
open PySem PySem.W PySem.Spec PySem.Calls PyProof.Rows PyProof.V
set_option maxRecDepth 100000
namespace Mine
theorem zip_no_len : typeLookup (.type "zip") "__len__" = pure none := by rw [typeLookup_type, builtinLookup_eq_fast]; kernel_rfl
theorem zip_no_hint : typeLookup (.type "zip") "__length_hint__" = pure none := by rw [typeLookup_type, builtinLookup_eq_fast]; kernel_rfl
/-- the tuples of signs -/
def gramsOf (ps : List (Addr × Str × Tok)) (cnt : Nat) : List Dat := (List.range cnt).map fun j => .tuple ((ps.map (chr · j)).map Dat.str)
theorem strsAre_dat {news : List (Addr × Obj)} : ∀ {vs : List Value} {xs : List Str}, StrsAre vs xs → DatAll news vs (xs.map Dat.str)
  | _, _, .nil => .nil
  | _, _, .cons x t r => .cons (.str x t) (strsAre_dat r)
section
variable {prog : Program} {w : World} {A : Around} {E : Value → Shared → Prop} {s : Shared}
theorem call_list_zip {n z : Addr} {ps : List (Addr × Str × Tok)} {cnt : Nat} {Q : Value → Shared → Prop} (hh : A.handled = none) (hps : ps.length ≤ 6) (hne : ps ≠ []) (hc : cnt ≤ 6) (M : ZipMade s.heap n z ps) (av : ∀ i, i < cnt → ∀ p ∈ ps, i < p.2.1.cps.size) (en : ∃ p ∈ ps, p.2.1.cps.size ≤ cnt)
    (hQ : ∀ h' tk Ts, Ts.length = cnt → LZ s.heap s.heap.objs.size z (n + ps.length) (n + ps.length + 1) ps Ts h' → Q (.ref s.heap.objs.size) { s with heap := h', toks := tk }) :
    wpAny (model prog w) A (call (.type "list") [.ref z]) Q E s := by
  obtain ⟨arr, hto, harr⟩ := M.to
  generalize hS : s.heap.objs.size = S at hQ
  have hSn : S = n + ps.length + 3 := by rw [← hS, M.size]
  have pn : ∀ p ∈ ps, ∃ j, j < ps.length ∧ p.1 = n + j := fun p hp => by
    have : p.1 ∈ ps.map (·.1) := List.mem_map.mpr ⟨p, hp, rfl⟩
    rw [M.adr] at this
    obtain ⟨j, hj, e⟩ := List.mem_map.mp this
    exact ⟨j, List.mem_range.mp hj, e.symm⟩
  have D : Apart S z (n + ps.length) (n + ps.length + 1) ps := by
    have hz := M.last
    have nn : ∀ a b : Nat, a < b → n + a ≠ n + b := fun a b h => Nat.ne_of_lt (Nat.add_lt_add_left h n)
    refine ⟨?_, fun p hp => ?_, fun p hp => ?_, fun p hp => ?_, ?_, ?_, ?_, ?_, ?_, ?_, fun p hp => ?_⟩
    · rw [M.adr]
      exact List.Pairwise.map _ (fun a b h q => h (Nat.add_left_cancel q)) List.nodup_range
    · obtain ⟨j, hj, e⟩ := pn p hp
      rw [e, hz]; exact nn j (ps.length + 2) (by omega)
    · obtain ⟨j, hj, e⟩ := pn p hp
      rw [e]; exact nn j (ps.length + 1) (by omega)
    · obtain ⟨j, hj, e⟩ := pn p hp
      rw [e]; exact nn j ps.length (by omega)
    · rw [hz]; exact nn ps.length (ps.length + 2) (by omega)
    · rw [hz]; exact nn (ps.length + 1) (ps.length + 2) (by omega)
    · exact nn ps.length (ps.length + 1) (by omega)
    · rw [hz, hSn]; exact Nat.lt_succ_self _
    · rw [hSn]; exact Nat.lt_add_of_pos_right (by decide)
    · rw [hSn]; exact Nat.lt_add_of_pos_right (n := n + ps.length + 1) (k := 2) (by decide)
    · obtain ⟨j, hj, e⟩ := pn p hp
      rw [e, hSn]; exact Nat.add_lt_add_left (show j < ps.length + 3 by omega) n
  refine callType_codes (Q₁ := fun obj s₁ => obj = .ref S ∧ s₁ = { s with heap := s.heap.push { cls := .type "list", data := .seq #[] } }) F.called_list (F.typeCall_list_1 _) F.entry_list_init
    (code_list_new _ ⟨by rw [hS], rfl⟩) fun obj s₁ h₁ => ?_
  obtain ⟨rfl, rfl⟩ := h₁
  have hSl : (s.heap.push { cls := .type "list", data := .seq #[] }).get? S = some { cls := .type "list", data := .seq #[] } := by rw [← hS]; exact Heap.get?_push_size _ rfl
  refine ⟨⟨_, hSl, rfl⟩, F.args_list_init_2 _ _, ?_⟩
  show wpAny _ A.in1.in1 (do let old ← Builtin.List.listItems (.ref S); Builtin.List.listUpdate (.ref S) (fun _ => #[]); letGo old.toList.reverse; Builtin.List.listExtendWith (.ref S) (.ref z) .none) _ _ _
  refine wpAny_bind ?_
  unfold Builtin.List.listItems
  refine wpAny_bind (wpAny_seqItems hSl rfl (wpAny_pure ?_))
  show wpAny _ _ (updateSeq S (fun _ => #[]) >>= fun _ => letGo (#[] : Array Value).toList.reverse >>= fun _ => Builtin.List.listExtendWith (.ref S) (.ref z) .none) _ _ _
  refine wpAny_bind (wpAny_updateSeq hSl rfl ?_)
  have hS₂ := Heap.get?_update_self (Obj.mapSeq (fun _ => (#[] : Array Value))) hSl rfl
  have oth₂ : ∀ b o, b ≠ S → (s.heap.push { cls := .type "list", data := .seq #[] }).get? b = some o → ((s.heap.push { cls := .type "list", data := .seq #[] }).update S (Obj.mapSeq (fun _ => (#[] : Array Value)))).get? b = some o :=
    fun b o hb e => (Heap.get?_update_other _ _ (Ne.symm hb)).trans e
  refine wpAny_bind (wpAny_letGo ?_)
  have zne : z ≠ S := Nat.ne_of_lt D.zS
  have old : ∀ b o, b ≠ S → s.heap.get? b = some o → ((s.heap.push { cls := .type "list", data := .seq #[] }).update S (Obj.mapSeq (fun _ => (#[] : Array Value)))).get? b = some o := fun b o hb e => oth₂ b o hb (Heap.get?_push_of_some _ e)
  generalize hH2 : (s.heap.push { cls := .type "list", data := .seq #[] }).update S (Obj.mapSeq (fun _ => (#[] : Array Value))) = H2 at hS₂ old
  have hsz2 : H2.objs.size = S + 1 := by rw [← hH2, Heap.size_after_update, Heap.size_push, hS]
  have hz₂ : H2.get? z = some (zipObj .none false (n + ps.length) (n + ps.length + 1)) := old z _ zne M.zip
  have hTy : Shared.TypeIs { s with heap := H2 } (.ref z) "zip" := ⟨_, hz₂, rfl⟩
  unfold Builtin.List.listExtendWith
  refine wpAny_bind (wpAny_typeOf hTy ?_)
  have h1 : Builtin.List.listSameRef (.ref S) (.ref z) = false := by simp [Builtin.List.listSameRef, Ne.symm zne]
  have h2 : (Value.type "zip" == Value.type "list") = false := by decide
  have h3 : (Value.type "zip" == Value.type "tuple") = false := by decide
  simp only [h1, h2, h3, Bool.or_false, Bool.false_eq_true, if_false]
  refine wpAny_bind (wpAny_pyIter_zip hz₂ ?_)
  refine wpAny_bind (wpAny_holding ?_)
  unfold Builtin.List.listLengthHint
  refine wpAny_bind (wpAny_specialOf hTy zip_no_len ?_)
  show wpAny _ _ (specialOf (Value.ref z) (Str.ofString "__length_hint__") >>= _) _ _ _
  refine wpAny_bind (wpAny_specialOf hTy zip_no_hint ?_)
  refine wpAny_pure ?_
  show wpAny _ _ (rule "list.extend.makes-room" >>= fun _ => Builtin.List.listTouch (.ref S) >>= fun _ =>
    again (.builtin "list.extend.loop" ⟨[.ref S, .ref z, .none], []⟩)) _ _ _
  refine wpAny_bind (wpAny_rule ?_)
  refine wpAny_bind ?_
  show wpAny _ _ (updateSeq S (·.push .none) >>= fun _ => updateSeq S (·.pop)) _ _ _
  refine wpAny_bind (wpAny_updateSeq hS₂ rfl ?_)
  have hS₃ := Heap.get?_update_self (Obj.mapSeq (·.push Value.none)) hS₂ rfl
  refine wpAny_updateSeq (hz := by seq_fits) hS₃ rfl ?_
  have hS₄ := Heap.get?_update_self (Obj.mapSeq (·.pop)) hS₃ rfl
  have oth : ∀ b o, b ≠ S → H2.get? b = some o → ((H2.update S (Obj.mapSeq (·.push Value.none))).update S (Obj.mapSeq (·.pop))).get? b = some o :=
    fun b o hb e => (Heap.get?_update_other _ _ (Ne.symm hb)).trans ((Heap.get?_update_other _ _ (Ne.symm hb)).trans e)
  refine wpAny_pure ⟨plainId_quiet F.plain_extend_loop _, extend_zip (A := A.in1) (h₁ := s.heap) hh D hps hne hc av en cnt [] _ (Nat.zero_add _) ⟨⟨_, hS₄⟩, fun j T e => by simp at e, fun _ h => (nomatch h), fun c o c1 _ _ _ e => oth c o c1 (old c o c1 e)⟩ ⟨⟨_, _, oth _ _ zne hz₂, .inl ⟨rfl, rfl⟩⟩, oth _ _ (Nat.ne_of_lt D.TIS) (old _ _ (Nat.ne_of_lt D.TIS) M.ti), ⟨arr, oth _ _ (Nat.ne_of_lt D.TOS) (old _ _ (Nat.ne_of_lt D.TOS) hto), harr⟩, fun p hp => (M.si p hp).at' fun o e => oth _ _ (Nat.ne_of_lt (D.pS p hp)) (old _ _ (Nat.ne_of_lt (D.pS p hp)) e)⟩ ?_ fun h' tk Ts hl x => ⟨rfl, hQ h' tk Ts hl x⟩⟩
  show S < ((H2.update S _).update S _).objs.size
  rw [Heap.size_after_update, Heap.size_after_update, hsz2]
  exact Nat.lt_succ_self _
theorem tups_ledger {h : Heap} {ps : List (Addr × Str × Tok)} : ∀ (Ts : List Addr) (k : Nat), (∀ j T, Ts[j]? = some T → ∃ vs : List Value, h.get? T = some (tupObj vs.toArray) ∧ StrsAre vs (ps.map (chr · (k + j)))) →
    ∃ tl : List (Addr × Obj), (∀ p ∈ tl, p.1 ∈ Ts ∧ h.get? p.1 = some p.2) ∧ ∀ news', (∀ p ∈ tl, p ∈ news') → DatAll news' (Ts.map Value.ref) ((List.range Ts.length).map fun j => .tuple ((ps.map (chr · (k + j))).map Dat.str))
  | [], _, _ => by
    refine ⟨[], fun p hp => ?_, fun news' _ => ?_⟩
    · cases hp
    · exact .nil
  | T :: Ts, k, H => by
    obtain ⟨vs, hv, hs⟩ := H 0 T rfl
    obtain ⟨tl, h1, h2⟩ := tups_ledger Ts (k + 1) fun j U e => by
      have := H (j + 1) U (by simpa using e)
      rw [show k + (j + 1) = k + 1 + j by omega] at this
      exact this
    refine ⟨(T, tupObj vs.toArray) :: tl, fun p hp => ?_, fun news' hn => ?_⟩
    · rcases List.mem_cons.mp hp with rfl | hp
      · exact ⟨.head _, hv⟩
      · exact ⟨.tail _ (h1 p hp).1, (h1 p hp).2⟩
    · rw [List.length_cons, List.range_succ_eq_map, List.map_cons, List.map_cons]
      refine .cons (.tuple (hn _ (.head _)) (strsAre_dat hs)) ?_
      have e : ((fun j => Dat.tuple ((ps.map (chr · (k + j))).map Dat.str)) ∘ Nat.succ) = fun j => Dat.tuple ((ps.map (chr · (k + 1 + j))).map Dat.str) := by
        funext j
        show Dat.tuple ((ps.map (chr · (k + (j + 1)))).map Dat.str) = _
        rw [show k + (j + 1) = k + 1 + j by omega]
      rw [List.map_map, e]
      exact h2 news' fun p hp => hn p (.tail _ hp)
/-- list of a zip of texts -/
theorem list_zip_K {h₀ : Heap} {L : Addr} {m : Str → Option Value} {news : List (Addr × Obj)} {n z : Addr} {ps : List (Addr × Str × Tok)} {cnt : Nat} {Q : Value → Shared → Prop} (hh : A.handled = none) (FL : Fr h₀ L s.heap m) (N : News h₀ L s.heap news) (M : ZipMade s.heap n z ps) (hN : ∀ p ∈ news, p.1 < n) (hL : L < n)
    (hps : ps.length ≤ 6) (hne : ps ≠ []) (hc : cnt ≤ 6) (av : ∀ i, i < cnt → ∀ p ∈ ps, i < p.2.1.cps.size) (en : ∃ p ∈ ps, p.2.1.cps.size ≤ cnt)
    (hQ : ∀ h' tk S nw, Fr h₀ L h' m → News h₀ L h' (nw ++ news) → (∀ p ∈ nw, ∀ q ∈ news, q.1 < p.1) → DatIn nw (.ref S) (.list (gramsOf ps cnt)) → Q (.ref S) { s with heap := h', toks := tk }) :
    wpAny (model prog w) A (call (.type "list") [.ref z]) Q E s := by
  refine call_list_zip hh hps hne hc M av en fun h' tk Ts hl x => ?_
  have pn : ∀ p ∈ ps, ∃ j, j < ps.length ∧ p.1 = n + j := fun p hp => by
    have : p.1 ∈ ps.map (·.1) := List.mem_map.mpr ⟨p, hp, rfl⟩
    rw [M.adr] at this
    obtain ⟨j, hj, e⟩ := List.mem_map.mp this
    exact ⟨j, List.mem_range.mp hj, e.symm⟩
  have hSn : s.heap.objs.size = n + (ps.length + 3) := M.size
  have k : ∀ c o, c < n → s.heap.get? c = some o → h'.get? c = some o := fun c o hcn e => by
    have ne : ∀ j, c ≠ n + j := fun j => Nat.ne_of_lt (Nat.lt_of_lt_of_le hcn (Nat.le_add_right _ _))
    refine x.kept c o (by rw [hSn]; exact ne _) (by rw [M.last]; exact ne (ps.length + 2)) (ne (ps.length + 1)) (fun p hp => ?_) e
    obtain ⟨j, _, e'⟩ := pn p hp
    rw [e']; exact ne j
  have F' : Fr h₀ L h' m := ⟨FL.ns.at' fun o e => k L o hL e, fun c o e => k c o (Nat.lt_of_lt_of_le (Heap.lt_size e) (Nat.le_trans FL.above (Nat.le_of_lt hL))) (FL.keep c o e), FL.above⟩
  have fresh : ∀ c, s.heap.objs.size ≤ c → c ≠ L ∧ h₀.get? c = none := fun c hc => by
    refine ⟨fun q => ?_, ?_⟩
    · rw [q] at hc; exact absurd FL.ns.lt (Nat.not_lt.mpr hc)
    · cases q : h₀.get? c with
      | none => rfl
      | some o => exact absurd (Heap.lt_size (FL.keep _ _ q)) (Nat.not_lt.mpr hc)
  obtain ⟨c, hli⟩ := x.li
  obtain ⟨tl, t1, t2⟩ := tups_ledger Ts 0 fun j T e => by
    have := x.tup j T e
    rw [Nat.zero_add]
    exact this
  refine hQ h' tk _ ((s.heap.objs.size, W.listOf (Ts.map Value.ref).toArray c) :: tl) F' (fun p hp => ?_) (fun p hp q hq => ?_) (.list (.head _) ?_)
  · rcases List.mem_cons.mp hp with rfl | hp
    · exact ⟨hli, fresh _ (Nat.le_refl _)⟩
    · rcases List.mem_append.mp hp with hp | hp
      · exact ⟨(t1 p hp).2, fresh _ (Nat.le_of_lt (x.new _ (t1 p hp).1))⟩
      · exact ⟨k _ _ (hN p hp) (N p hp).1, (N p hp).2⟩
  · have hq1 : q.1 < s.heap.objs.size := by rw [hSn]; exact Nat.lt_of_lt_of_le (hN q hq) (Nat.le_add_right _ _)
    rcases List.mem_cons.mp hp with rfl | hp
    · exact hq1
    · exact Nat.lt_trans hq1 (x.new _ (t1 p hp).1)
  · have := t2 ((s.heap.objs.size, W.listOf (Ts.map Value.ref).toArray c) :: tl) fun p hp => .tail _ hp
    unfold gramsOf
    rw [hl] at this
    simpa using this
theorem zip_K2 {h₀ : Heap} {L : Addr} {m : Str → Option Value} {news : List (Addr × Obj)} {x y : Str} {t u : Tok} {Q : Value → Shared → Prop} (FL : Fr h₀ L s.heap m) (N : News h₀ L s.heap news) (hx : ascii x = true) (hy : ascii y = true)
    (h : ∀ h' n z, ZipMade h' n z [(n, x, t), (n + 1, y, u)] → Fr h₀ L h' m → News h₀ L h' news → (∀ p ∈ news, p.1 < n) → L < n → Q (.ref z) { s with heap := h' }) :
    wpAny (model prog w) A (call (.type "zip") [.str x t, .str y u]) Q E s :=
  call_zip_s2 hx hy fun h' z M k => h h' _ z M (FL.keeps k) (N.grown k) (fun p hp => Heap.lt_size (N p hp).1) FL.ns.lt
theorem zip_K3 {h₀ : Heap} {L : Addr} {m : Str → Option Value} {news : List (Addr × Obj)} {x y v : Str} {t u r : Tok} {Q : Value → Shared → Prop} (FL : Fr h₀ L s.heap m) (N : News h₀ L s.heap news) (hx : ascii x = true) (hy : ascii y = true) (hv : ascii v = true)
    (h : ∀ h' n z, ZipMade h' n z [(n, x, t), (n + 1, y, u), (n + 2, v, r)] → Fr h₀ L h' m → News h₀ L h' news → (∀ p ∈ news, p.1 < n) → L < n → Q (.ref z) { s with heap := h' }) :
    wpAny (model prog w) A (call (.type "zip") [.str x t, .str y u, .str v r]) Q E s :=
  call_zip_s3 hx hy hv fun h' z M k => h h' _ z M (FL.keeps k) (N.grown k) (fun p hp => Heap.lt_size (N p hp).1) FL.ns.lt
end
end Mine
end
-- TX
theorem Mine.off_TX : True := by
  w_top off
  trivial
section
open PySem PySem.W PySem.Spec PySem.Calls PyProof.Rows PyProof.V
set_option maxRecDepth 100000
namespace Mine
/-- a text's i-th sign, as a text -/
def sgn (x : Str) (i : Nat) : Str := ⟨#[x.cps.getD i 0]⟩
/-- neighbours, n at a time -/
def grams (n : Nat) (x : Str) : List Dat := (List.range (x.length + 1 - n)).map fun j => .tuple ((List.range n).map fun i => Dat.str (sgn x (j + i)))
theorem slice_drop (x : Str) (j : Nat) : Txt.slice x (some (j : Int)) none = ⟨(x.cps.toList.drop j).toArray⟩ := by
  by_cases h : j ≤ x.cps.toList.length
  · show StrLaws.sliceText x (some (j : Int)) none = _
    rw [StrLaws.sliceText_from ⟨by omega, by omega⟩]
    congr 2
    rw [Int.toNat_natCast, List.take_of_length_le]
    rw [List.length_drop]; omega
  · have h1 : (x.length : Int) ≤ j := by simp [Str.length] at h ⊢; omega
    have h2 := (slice_sn_cases x j (by omega))
    rcases h2 with ⟨_, h2⟩ | ⟨h2, _⟩
    · have e : (Txt.slice x (some (j : Int)) none).cps.size = 0 := by
        have : ((Txt.slice x (some (j : Int)) none).length : Int) = 0 := h2
        simp only [Str.length] at this
        omega
      rw [List.drop_of_length_le (by omega)]
      have : (Txt.slice x (some (j : Int)) none).cps = #[] := Array.eq_empty_of_size_eq_zero e
      cases hq : Txt.slice x (some (j : Int)) none with
      | mk c => rw [hq] at this; exact congrArg Str.mk this
    · omega
theorem slice_size (x : Str) (j : Nat) : (Txt.slice x (some (j : Int)) none).cps.size = x.length - j := by
  rw [slice_drop]; simp [Str.length]
theorem slice_getD (x : Str) (j i : Nat) : (Txt.slice x (some (j : Int)) none).cps.getD i 0 = x.cps.getD (j + i) 0 := by
  rw [slice_drop]
  simp only [Array.getD_eq_getD_getElem?, List.getElem?_toArray, List.getElem?_drop, Array.getElem?_toList]
theorem slice_ascii {x : Str} (h : ascii x = true) (j : Nat) : ascii (Txt.slice x (some (j : Int)) none) = true := by
  rw [slice_drop]
  unfold ascii at h ⊢
  rw [← Array.all_toList] at h ⊢
  simp only [List.all_eq_true] at h ⊢
  intro c hc
  exact h c (List.mem_of_mem_drop hc)
theorem chr_slice (a : Addr) (t : Tok) (x : Str) (j i : Nat) : chr (a, Txt.slice x (some (j : Int)) none, t) i = sgn x (i + j) := by
  unfold chr sgn
  rw [slice_getD, Nat.add_comm]
theorem grams_two (a b : Addr) (t u : Tok) (x : Str) : gramsOf [(a, Txt.slice x (some ((0 : Nat) : Int)) none, t), (b, Txt.slice x (some ((1 : Nat) : Int)) none, u)] (x.length + 1 - 2) = grams 2 x := by
  unfold gramsOf grams
  refine List.map_congr_left fun j _ => ?_
  simp only [List.map_cons, List.map_nil, chr_slice]
  rfl
theorem grams_three (a b c : Addr) (t u r : Tok) (x : Str) : gramsOf [(a, Txt.slice x (some ((0 : Nat) : Int)) none, t), (b, Txt.slice x (some ((1 : Nat) : Int)) none, u), (c, Txt.slice x (some ((2 : Nat) : Int)) none, r)] (x.length + 1 - 3) = grams 3 x := by
  unfold gramsOf grams
  refine List.map_congr_left fun j _ => ?_
  simp only [List.map_cons, List.map_nil, chr_slice]
  rfl
end Mine
end
-- N1
theorem Mine.off_N1 : True := by
  w_top off
  trivial
section
open PySem PySem.W PySem.Spec PySem.Calls PyProof.Rows PyProof.V
set_option maxRecDepth 100000
set_option maxHeartbeats 8000000
namespace Mine
abbrev ClaimD (k : Nat) (prog : Program) (w : World) (K : Frag) (p : Program) (loose : List Str) (mean : ExcName → Option Value) (mg mb : Str → Option Value) (f : Addr) (news : List (Addr × Obj)) (vs : List Value) (P : Value → List (Addr × Obj) → Prop) : Prop :=
  ∀ (dp un : Nat) (gd : Option (List Code)) (cn : Str) (cs : Scope) (a : Addr) (ccd : Value) (cl : List (Str × Addr)) (outer : List Env) (A₀ : Around) (base h₀ : Heap) (L : Addr) (m : Str → Option Value) (s : Shared) (Q E : Value → Shared → Prop),
    Below A₀ base outer h₀ → Fr h₀ L s.heap m → K.In h₀ → News h₀ L s.heap news → Top p loose mean mg mb h₀ → cs.kind = .function →
    dp + k < recursionLimit → un + 10 * k < cLine → (∀ v h' tk news', Fr h₀ L h' m → News h₀ L h' news' → (∀ q ∈ news, q ∈ news') → P v news' → Q v { s with heap := h', toks := tk }) →
      wpAny (model prog w) (ktrTop dp un gd cn cs L a ccd cl outer) (call (.ref f) vs) Q E s
abbrev ClaimF (k : Nat) (prog : Program) (w : World) (K : Frag) (p : Program) (loose : List Str) (mean : ExcName → Option Value) (mg mb : Str → Option Value) (f : Addr) (news : List (Addr × Obj)) (vs : List Value) (P : Value → List (Addr × Obj) → Prop) : Prop :=
  ∀ (dp un : Nat) (gd : Option (List Code)) (cn : Str) (cs : Scope) (a : Addr) (ccd : Value) (cl : List (Str × Addr)) (outer : List Env) (A₀ : Around) (base h₀ : Heap) (L : Addr) (m : Str → Option Value) (s : Shared) (Q E : Value → Shared → Prop),
    Below A₀ base outer h₀ → Fr h₀ L s.heap m → K.In h₀ → News h₀ L s.heap news → Top p loose mean mg mb h₀ → cs.kind = .function →
    dp + k < recursionLimit → un + 10 * k < cLine → (∀ v h' tk nw, Fr h₀ L h' m → News h₀ L h' (nw ++ news) → (∀ q ∈ nw, ∀ r ∈ news, r.1 < q.1) → P v nw → Q v { s with heap := h', toks := tk }) →
      wpAny (model prog w) (ktrTop dp un gd cn cs L a ccd cl outer) (call (.ref f) vs) Q E s
local macro_rules | `(tactic| k_room) => `(tactic| ktr_room)
local macro_rules | `(tactic| k_units) => `(tactic| ktr_units)
local macro_rules | `(tactic| k_mem) => `(tactic| assumption)
local macro_rules | `(tactic| k_steps) => `(tactic| repeat' ((fail_if_success (with_reducible show LCg.CompSrc _ _ _ _ _ _ _ _ _ _ _ _ _ _)); (fail_if_success (with_reducible show LCg.CompEnd _ _ _ _ _ _ _ _ _ _ _ _ _ _)); (fail_if_success (with_reducible show LCg.FinE _ _ _ _ _ _ _)); first | (k_unfold; (try dsimp only)) | (k_end; wrow_close) | walk1 | (dsimp only; walk1) | (leave1; walk_say "STEP leave1"; try dsimp only) | fail "no step"))
local macro_rules | `(tactic| k_all) => `(tactic| exact allNe_succ (by assumption))
theorem rsize_n {n : Nat} (h : n ≤ 6) : Builtin.Range.rangeSize 0 (n : Int) 1 = (n : Int) := by
  rcases six h with rfl | rfl | rfl | rfl | rfl | rfl | rfl <;> decide
theorem rsmall_n {n : Nat} (h : n ≤ 6) : Builtin.Range.small 0 (n : Int) 1 = true := by
  rcases six h with rfl | rfl | rfl | rfl | rfl | rfl | rfl <;> decide
theorem ngrams_walk {prog : Program} {w : World} {p : Program} {loose : List Str} {mean : ExcName → Option Value} {mg mb : Str → Option Value} (news : List (Addr × Obj)) (x : Str) (t u : Tok) (q : Nat) (hq : q = 2 ∨ q = 3) (hx : ascii x = true) (hl : x.length ≤ 6) :
   ClaimF 6 prog w (hd.heap_39 w.params) p loose mean mg mb 26 news [.str x t, .int q u] (fun v nw => DatIn nw v (.list (grams q x))) := by
  intro dp un gd cn cs a ccd cl outer A₀ base h₀ L m s Q E B F X N T hk hd hu hret
  obtain ⟨ck, c2, c3, c4, c5⟩ := cs
  cases hk
  have hq6 : q ≤ 6 := by omega
  w_strict k_steps
  refine ks_call (P := fun _ => True) rfl (fun h _ => ⟨_, .inr (.inl rfl), Looks.of_pure rfl⟩) (ks_lone ?_)
  w_strict k_steps
  rename IsRange _ _ _ _ _ _ _ _ => RG
  rename Fr _ _ _ _ => FL
  rename News _ _ _ (_ :: news) => NL
  refine LCg.CompSrc.range (by rfl) FL NL RG (rsmall_n hq6) (rsize_n hq6) (by first | size_fits | (rw [sizeLine_eq]; omega)) ?_
  intro g
  refine comp_invN (fun n0 i ys nx => nx = n0 ∧ StrsAre ys ((List.range i).map fun j : Nat => Txt.slice x (some (j : Int)) none)) ?_ ?_ ⟨rfl, .nil⟩
  · rintro i v I oI C oC D m₂ ys nx h tk E' hi ⟨t', rfl⟩ ⟨hn0, hys⟩ hoC hx' F' N' off ne
    subst hn0
    clear NL FL
    w_strict k_steps
    rename Fr _ _ _ _ => FL
    rename News _ _ _ _ => NL
    have e0 : (0 : Int) + (i : Int) = ((i : Nat) : Int) := by omega
    rw [e0]
    refine LCg.CompEnd.intro FL NL _ (fun p hp => hp) off trivial ⟨rfl, ?_⟩
    rw [List.range_succ, List.map_append]
    exact PyProof.Rows.StrsAre.append' hys (.cons _ _ .nil)
  · rintro ys nx ⟨rfl, hys⟩
    clear NL FL
    w_strict k_steps
    intro D' h' tk' F' N' hoff
    dsimp only
    rcases hq with rfl | rfl
    · have e2 : (List.range 2).map (fun j : Nat => Txt.slice x (some (j : Int)) none) = [Txt.slice x (some ((0 : Nat) : Int)) none, Txt.slice x (some ((1 : Nat) : Int)) none] := rfl
      rw [e2] at hys
      cases hys with
      | cons _ t0 hys =>
      cases hys with
      | cons _ t1 hys =>
      cases hys
      w_strict k_steps
      · trivial
      rename Fr _ _ _ _ => FL
      rename News _ _ _ _ => NL
      refine zip_K2 FL NL (slice_ascii hx 0) (slice_ascii hx 1) ?_
      intro h₁ n z M F₁ N₁ hN hL
      clear FL NL
      w_strict k_steps
      refine list_zip_K (cnt := x.length + 1 - 2) rfl F₁ N₁ M hN hL (by simp) (by simp) (by omega) ?_ ?_ ?_
      · intro i hi p hp
        simp only [List.mem_cons, List.not_mem_nil, or_false] at hp
        rcases hp with rfl | rfl <;> (rw [slice_size]; omega)
      · exact ⟨_, .tail _ (.head _), by rw [slice_size]; omega⟩
      · intro h₂ tk₂ S nw F₂ N₂ sub hD
        rw [grams_two] at hD
        clear F₁ N₁
        w_strict k_steps
        exact hret _ _ _ nw (by k_asm) (cb_drop (by k_asm) fun p hp => (List.mem_append.mp hp).elim (fun h => List.mem_append_left _ h) fun h => List.mem_append_right _ (.tail _ (.tail _ h))) (fun p hp r hr => sub p hp r (.tail _ (.tail _ hr))) hD
    · have e2 : (List.range 3).map (fun j : Nat => Txt.slice x (some (j : Int)) none) = [Txt.slice x (some ((0 : Nat) : Int)) none, Txt.slice x (some ((1 : Nat) : Int)) none, Txt.slice x (some ((2 : Nat) : Int)) none] := rfl
      rw [e2] at hys
      cases hys with
      | cons _ t0 hys =>
      cases hys with
      | cons _ t1 hys =>
      cases hys with
      | cons _ t2 hys =>
      cases hys
      w_strict k_steps
      · trivial
      rename Fr _ _ _ _ => FL
      rename News _ _ _ _ => NL
      refine zip_K3 FL NL (slice_ascii hx 0) (slice_ascii hx 1) (slice_ascii hx 2) ?_
      intro h₁ n z M F₁ N₁ hN hL
      clear FL NL
      w_strict k_steps
      refine list_zip_K (cnt := x.length + 1 - 3) rfl F₁ N₁ M hN hL (by simp) (by simp) (by omega) ?_ ?_ ?_
      · intro i hi p hp
        simp only [List.mem_cons, List.not_mem_nil, or_false] at hp
        rcases hp with rfl | rfl | rfl <;> (rw [slice_size]; omega)
      · exact ⟨_, .tail _ (.tail _ (.head _)), by rw [slice_size]; omega⟩
      · intro h₂ tk₂ S nw F₂ N₂ sub hD
        rw [grams_three] at hD
        clear F₁ N₁
        w_strict k_steps
        exact hret _ _ _ nw (by k_asm) (cb_drop (by k_asm) fun p hp => (List.mem_append.mp hp).elim (fun h => List.mem_append_left _ h) fun h => List.mem_append_right _ (.tail _ (.tail _ h))) (fun p hp r hr => sub p hp r (.tail _ (.tail _ hr))) hD
end Mine
end
-- RC
theorem Mine.off_RC : True := by
  w_top off
  trivial
section
open PySem PySem.W PySem.Spec PySem.Calls PyProof.Rows PyProof.V
set_option maxRecDepth 100000
namespace Mine
section
variable {prog : Program} {w : World} {A₀ A : Around} {s : Shared} {base h₀ : Heap} {outer : List Env} {L : Addr} {m : Str → Option Value} {env : Env} {news : List (Addr × Obj)} {K : Frag} {p : Program} {loose : List Str} {mean : ExcName → Option Value} {mg mb : Str → Option Value}
  {R : Result → Shared → Prop} {name qual : Str} {params : Arguments} {body : List Stmt} {scope : Scope} {dV kV doc pm cdv ct oc : Value} {an od : Option Addr} {osl : Array (Option Value)} {f : Addr} {args : Args}
/-- a def with a star parameter, some of whose names are captured, is entered -/
theorem rest_C {vs : List Value} {g₁ : Addr → Option (List (Str × Value))} {binds : Addr → List (Str × Value)}
    (B : Below A₀ base outer h₀) (F : Fr h₀ L s.heap m) (X₀ : K.In h₀) (N : News h₀ L s.heap news) (T : Top p loose mean mg mb h₀) (hA : A.frames = some (env :: outer)) (hf : env.frame = some L) (hke : env.scope.kind = .function)
    (ho : K.lookup f = some ⟨oc, od, .func (fnOf name qual params body scope dV kV doc pm an cdv ct), osl⟩) (hcd : codeIn K cdv qual = true) (hroom : A.depth < recursionLimit)
    (hv : args.pos.drop (params.posonlyargs.length + params.args.length) = vs)
    (hp : peek1 K ⟨prog, w.params⟩ (bindArgs (fnOf name qual params body scope dV kV doc pm an cdv ct) args) = some (({ cls := .type "tuple", data := .seq vs.toArray } : Obj), g₁))
    (hg : ∀ D, g₁ D = some (binds D)) (hkind : ∀ D, ((binds D).all fun y => scope.names.lookup y.1 == some .local || scope.names.lookup y.1 == some .cell) = true)
    (hnd : ((cellsFrom 0 scope.names []).map (·.1)).Nodup)
    (h : ∀ Dv g L' h₁ tk cells, (∀ p ∈ news, p.1 < Dv) → Fr h₀ L g m → Fr g L' h₁ (bindL (envOfC qual scope L' f cdv).kindOf (binds Dv) fun _ => none) → News g L' h₁ (cells ++ (Dv, ({ cls := .type "tuple", data := .seq vs.toArray } : Obj)) :: news) →
      CellsAre (bindC (envOfC qual scope L' f cdv).kindOf (binds Dv) fun _ => none) (cellsFrom (L' + 1) scope.names []) cells → Below A base (env :: outer) g → K.In g → Top p loose mean mg mb g → (∀ p ∈ (Dv, ({ cls := .type "tuple", data := .seq vs.toArray } : Obj)) :: news, p.1 < L') →
      wpAny (model prog w) (A.deeper (envOfC qual scope L' f cdv)) (execs body (envOfC qual scope L' f cdv))
        (fun fl s' => LeaveK h₀ L m g R (match fl with | .ret v => v | _ => .none) s')
        (fun e s' => wpAny (model prog w) (A.deeper (envOfC qual scope L' f cdv)) (leaving (envOfC qual scope L' f cdv) e) (fun _ s'' => R (.error e) s'') (fun e' s'' => R (.error e') s'') s')
        { s with heap := h₁, toks := tk })
    (hco : scope.isCoroutine = false) (hgen : scope.isGenerator = false) (hk : scope.kind = .function) : codeAny (model prog w) A (.call (.ref f) args) R s := by
  have _ := hv
  refine codeAny_call_function (fd := fnOf name qual params body scope dV kV doc pm an cdv ct) (body := body) hroom ((X₀.keeps F.keep) _ _ ho) rfl hco hgen rfl (codeRec_of (X₀.keeps F.keep) hcd) ?_
  refine wp_of_peek1 (o := ({ cls := .type "tuple", data := .seq vs.toArray } : Obj)) F N (X₀.keeps F.keep) rfl (r := binds) (fun Dv h' F' N' l => ?_) _ g₁ hp hg
  obtain ⟨FG, BG, st, lv⟩ := groundX (R := R) (s := { s with heap := h' }) B F' N' hA hf hke
  refine wpAny_newFunctionEnv_cells hk (kindsX (hkind Dv) _) fun env' he s' x => ?_
  subst he
  refine ⟨(T.nolimit.keeps F'.keep).keeps x.toInCall.keep, codeAny_func ?_⟩
  obtain ⟨h₁, tk, rfl, _⟩ := x.done
  have hk₁ := x.toInCall.keep
  obtain ⟨cells, NC, Y⟩ := Cl.news (h₀ := h') (Nat.le_refl _) fun n c hm => ⟨x.cell n c (lookup_of_mem_nodup (cellsFrom_names scope.names 0 (h'.objs.size + 1) [] [] rfl ▸ hnd) hm), x.above n c hm⟩
  refine wpAny_mono (h Dv _ h'.objs.size h₁ tk cells l FG ⟨x.toInCall.ns, fun b o e => hk₁ b o (of_hideAll _ e), Nat.le_of_eq (hideAll_size _ _)⟩ (fun p hp => ?_) Y BG (X₀.keeps st) (T.keeps st) (fun p hp => Heap.lt_size (N' p hp).1)) (fun fl s' hl => lv _ _ hl) fun _ _ y => y
  rcases List.mem_append.mp hp with hp | hp
  · refine ⟨(NC p hp).1, (NC p hp).2.1, ?_⟩
    cases q : (hideAll h' (((Dv, ({ cls := .type "tuple", data := .seq vs.toArray } : Obj)) :: news).map (·.1))).get? p.1 with
    | none => rfl
    | some o => have := of_hideAll _ q; rw [(NC p hp).2.2] at this; cases this
  · exact ⟨hk₁ _ _ (N' p hp).1, Nat.ne_of_lt (Heap.lt_size (N' p hp).1), hideAll_none _ (List.mem_map_of_mem hp)⟩
end
end Mine
end
-- LT
theorem Mine.off_LT : True := by
  w_top off
  trivial
section
open PySem PySem.W PySem.Spec PySem.Calls PyProof.Rows PyProof.V
set_option maxRecDepth 100000
namespace Mine
/-- a tuple that the ledger holds -/
def TupSrc (ax : Addr) (its : Array Value) (nw : List (Addr × Obj)) : Prop := ∃ o n, (ax, o) ∈ nw ∧ o.cls = .type "tuple" ∧ o.data = .seq its n
section
variable {prog : Program} {w : World} {A : Around} {E : Value → Shared → Prop} {s : Shared} {h₀ : Heap} {L : Addr} {m : Str → Option Value} {env : Env}
/-- a comprehension over a tuple -/
theorem listComp_tup {elt iter : Expr} {x : Str} {px : Pos} {scope : Scope} {cl : List (Str × Addr)} {pos : Pos} {Q : Value → Shared → Prop} (_F₀ : Fr h₀ L s.heap m)
    (hclos : closureFor scope env = pure cl) (hcell : ∀ y ∈ scope.names, y.2 ≠ .cell) (hkind : scope.kind = .function)
    (hnames : ∀ y ∈ scope.names, y.2 = .local → scope.names.lookup y.1 = some .local) (hx : scope.names.lookup x = some .local)
    (h : wpAny (model prog w) A (eval iter env) (fun xv s₁ => ∃ ax its news, xv = .ref ax ∧ A.handled = none ∧ Fr h₀ L s₁.heap m ∧ News h₀ L s₁.heap news ∧ TupSrc ax its news ∧ its.size ≤ sizeLine ∧
      ∀ s₂ : Shared, (∃ g, s₂ = { s₁ with heap := g }) → LCg.CompRest prog w A h₀ L m env elt x scope cl s₂ (TupSrc ax its) (fun i v => its[i]? = some v) (LCg.FinE h₀ L m s₂ Q) its.size 0 [] news) E s)
    (hs : ∀ x, foldedSetIterable iter env x = pure x := by intro _; rfl) :
    wpAny (model prog w) A (eval (.ListComp elt [⟨.Name x px, iter, [], 0⟩] scope pos) env) Q E s := by
  rw [eval_ListComp]
  refine wpAny_comprehension_free (use := none) rfl hs hclos hkind hnames (wpAny_mono h (fun xv s₁ h₁ => ?_) fun _ _ e => e)
  obtain ⟨ax, its, news, rfl, hh, F, N, S, hsz, R⟩ := h₁
  have ht : ∀ {hp : Heap} {nw : List (Addr × Obj)}, News h₀ L hp nw → TupSrc ax its nw → hp.IsTuple ax its := fun N' S' => by
    obtain ⟨o, n, hm, hc, hd⟩ := S'
    exact ⟨o, (N' _ hm).1, hc, n, hd⟩
  have hl := ht N S
  have hlt : ax < s₁.heap.objs.size := by obtain ⟨_, e, _⟩ := hl; exact Heap.lt_size e
  refine wpAny_pyIter_tuple hl ?_
  have up : ∀ b o, s₁.heap.get? b = some o → (s₁.heap.push { cls := .type "tuple_iterator", data := .fields #[.ref ax, .int 0 0] }).get? b = some o := fun b o e => Heap.get?_push_of_some _ e
  refine LCg.block_U (Walks.tuple hh s₁.heap.objs.size ax (Nat.ne_of_lt hlt) its) hsz (fun i h st => by obtain ⟨o, e, _⟩ := st.1; exact ⟨o, e⟩)
    (fun i h h' o nw st e e' k N' S' => ⟨by obtain ⟨o', q, r⟩ := st.1; rw [e] at q; cases q; exact ⟨o, e', r⟩, ht N' S'⟩) hcell hkind hx ⟨⟨_, Heap.get?_push_size _ rfl, rfl, rfl⟩, hl.push _⟩ (fun b hb => ?_)
    (F.keeps up) (N.grown up) (Nat.ne_of_lt F.ns.lt) (next_is_new F) (fun p hp => Nat.ne_of_lt (Heap.lt_size (N p hp).1)) S (R _ ⟨_, rfl⟩) ?_
  · show b < (s₁.heap.push _).objs.size
    rw [Heap.size_push]
    rcases List.mem_cons.mp hb with rfl | hb
    · exact Nat.lt_succ_self _
    · rw [List.mem_singleton.mp hb]; exact Nat.lt_succ_of_lt hlt
  · intro D C h tk m' ys news' F' N' o1 hn hC₀ hD₀ hCL hDL hCD offC fin
    refine ⟨m', hn, fun h'' hs'' => fin D h'' tk (F'.change hs'' hCL hC₀) (fun p hp => ?_) o1⟩
    refine ⟨hs''.extBut _ _ ?_ (N' p hp).1, (N' p hp).2⟩
    rcases List.mem_cons.mp hp with rfl | hp
    · exact Ne.symm hCD
    · exact offC p hp
end
theorem compEnd_nw {h₀ : Heap} {L I C D : Addr} {m : Str → Option Value} {s₁ : Shared} {oI oC oD : Obj} {S : List (Addr × Obj) → Prop} {rest : Value → List (Addr × Obj) → Prop} {y : Value} {h' : Heap} {tk : Nat} {nw nx : List (Addr × Obj)}
    (F : Fr h₀ L h' m) (N : News h₀ L h' (nw ++ (I, oI) :: (C, oC) :: (D, oD) :: nx)) (lt : ∀ p ∈ nw, ∀ q ∈ (I, oI) :: (C, oC) :: (D, oD) :: nx, q.1 < p.1) (off : LCg.Off3 I C D nx) (hS : S (nw ++ nx)) (r : rest y (nw ++ nx)) :
    LCg.CompEnd h₀ L m s₁ I oI C oC D oD S rest y { s₁ with heap := h', toks := tk } := by
  refine LCg.CompEnd.intro F N (nw ++ nx) (fun p hp => ?_) (LCg.Off3.of fun p hp => ?_) hS r
  · rcases List.mem_cons.mp hp with rfl | hp
    · exact List.mem_append_right _ (.head _)
    rcases List.mem_cons.mp hp with rfl | hp
    · exact List.mem_append_right _ (.tail _ (.head _))
    rcases List.mem_cons.mp hp with rfl | hp
    · exact List.mem_append_right _ (.tail _ (.tail _ (.head _)))
    rcases List.mem_append.mp hp with hp | hp
    · exact List.mem_append_left _ hp
    · exact List.mem_append_right _ (.tail _ (.tail _ (.tail _ hp)))
  · rcases List.mem_append.mp hp with hp | hp
    · exact ⟨Nat.ne_of_gt (lt p hp _ (.head _)), Nat.ne_of_gt (lt p hp _ (.tail _ (.head _))), Nat.ne_of_gt (lt p hp _ (.tail _ (.tail _ (.head _))))⟩
    · exact off.mem p hp
theorem TupSrc.mono {ax : Addr} {its : Array Value} {nw nw' : List (Addr × Obj)} (x : TupSrc ax its nw) (hs : ∀ p ∈ nw, p ∈ nw') : TupSrc ax its nw' := by
  obtain ⟨o, n, hm, r⟩ := x
  exact ⟨o, n, hs _ hm, r⟩
theorem mem_under3 {h₀ h : Heap} {L : Addr} {a b c p : Addr × Obj} {l : List (Addr × Obj)} (_ : News h₀ L h (a :: b :: c :: l)) (hp : p ∈ l) : p ∈ a :: b :: c :: l := .tail _ (.tail _ (.tail _ hp))
end Mine
end
-- G2
theorem Mine.off_G2 : True := by
  w_top off
  trivial
section
open PySem PySem.W PySem.Spec PySem.Calls PyProof.Rows PyProof.V
set_option maxRecDepth 100000
set_option maxHeartbeats 8000000
namespace Mine
local macro_rules | `(tactic| k_room) => `(tactic| ktr_room)
local macro_rules | `(tactic| k_units) => `(tactic| ktr_units)
local macro_rules | `(tactic| k_mem) => `(tactic| assumption)
local macro_rules | `(tactic| k_steps) => `(tactic| repeat' ((fail_if_success (with_reducible show wpAny _ _ (eval (PySem.Expr.ListComp _ _ _ _) _) _ _ _)); (fail_if_success (with_reducible show LCg.CompEnd _ _ _ _ _ _ _ _ _ _ _ _ _ _)); (fail_if_success (with_reducible show LCg.FinE _ _ _ _ _ _ _)); (fail_if_success (show Exists _)); (fail_if_success (with_reducible show wpAny _ _ (call (Value.builtin "str.split") _) _ _ _)); (fail_if_success (with_reducible show wpAny _ _ (call (Value.ref 26) _) _ _ _)); first | (k_unfold; (try dsimp only)) | (k_end; wrow_close) | walk1 | (dsimp only; walk1) | (leave1; walk_say "STEP leave1"; try dsimp only) | fail "no step"))
theorem gs_none {prog : Program} {w : World} {p : Program} {loose : List Str} {mean : ExcName → Option Value} {mg mb : Str → Option Value} (news : List (Addr × Obj)) (x y : Str) (t u : Tok) (sf dx : Addr) (h1 h2 h3 : Int) (t1 t2 t3 : Tok) (qv : Value) (nd : Nat) (hqv : qv = .none)
   (hsf : (sf, instObj 189 dx) ∈ news) (hdx : (dx, dictOf [⟨h1, .str (Str.ofString "qval") t1, qv⟩, ⟨h2, .str (Str.ofString "test_func") t2, .ref 100⟩, ⟨h3, .str (Str.ofString "external") t3, .bool true⟩] nd) ∈ news)
   (hx : ascii x = true) (hy : ascii y = true) (hl : x.length ≤ 6) (hl2 : y.length ≤ 6) :
   ClaimD 12 prog w (hd.heap_39 w.params) p loose mean mg mb 108 news [.ref sf, .str x t, .str y u] (fun v nw => DatIn nw v (.list [.list ((Txt.words x).map Dat.str), .list ((Txt.words y).map Dat.str)])) := by
  subst hqv
  intro dp un gd cn cs a ccd cl outer A₀ base h₀ L m s Q E B F X N T hk hd hu hret
  obtain ⟨ck, c2, c3, c4, c5⟩ := cs
  cases hk
  refine wpAny_call ?_
  refine' rest_C ?k1 ?k2 ?k3 ?k4 ?k5 ?kA ?kF ?kK ?k6 ?k7 ?k8 ?kV ?kP ?kG ?kB ?kD ?_ ?c2 ?c3 ?c4
  (case kA => exact rfl); (case kF => exact rfl); (case kK => exact rfl); (case k1 => k_asm); (case k2 => k_asm); (case k3 => k_asm); (case k4 => k_asm); (case k5 => k_asm); (case k6 => k_is); (case k7 => k_is); (case k8 => k_room); (case kV => kl_lit); (case kP => exact rfl); (case kG => exact fun _ => rfl); (case kB => exact fun _ => rfl); (case kD => decide +kernel); (case c2 => exact rfl); (case c3 => exact rfl); (case c4 => exact rfl)
  intro Dv g' L' h' tk' cells' l1 FG' F' N' Y' B' X' T' l2
  k_cells Y'
  (try simp only [List.cons_append, List.nil_append] at N')
  dsimp only
  w_strict k_steps
  refine listComp_tup F' (by with_unfolding_all rfl) (by decide) (by rfl) (by decide) (by rfl) ?_
  w_strict k_steps
  refine ⟨Dv, #[.str x t, .str y u], _, rfl, rfl, F', N', ⟨_, _, .tail _ (.head _), rfl, rfl⟩, by rw [sizeLine_eq]; exact Nat.le_of_ble_eq_true rfl, ?_⟩
  rintro s₂ ⟨g, rfl⟩
  refine comp_invN (n := 2) (fun n0 i ys nx => (∀ p ∈ n0, p ∈ nx) ∧ DatAll nx ys (([.list ((Txt.words x).map Dat.str), .list ((Txt.words y).map Dat.str)] : List Dat).take i)) ?_ ?_ ⟨fun p hp => hp, .nil⟩
  · rintro i v I oI C oC D2 m₂ ys nx h tk E' hi hv ⟨hsub, hys⟩ hoC hx' F2 N2 off ne
    have hcm := hsub _ (.head _)
    clear F' N'
    have hi2 : i = 0 ∨ i = 1 := by omega
    rcases hi2 with rfl | rfl
    · obtain rfl : Value.str x t = v := Option.some.inj hv
      refine MethodCall_ ?_ (by rfl)
      w_strict k_steps
      rename Fr _ _ _ _ => FL
      rename News _ _ _ _ => NL
      refine KSpl.split0 FL NL ?_ (by rw [sizeLine_eq]; omega)
      intro S l h3 k3 e3 a3 F3 N3 l3
      rw [e3] at a3
      refine compEnd_nw (nw := [(S, W.listOf (strValues l).toArray 0)]) F3 N3 (fun p hp => by rw [List.mem_singleton.mp hp]; exact l3) off (TupSrc.mono ⟨_, _, hsub _ (.tail _ (.head _)), rfl, rfl⟩ fun p hp => .tail _ hp) ⟨fun p hp => .tail _ (hsub p hp), ?_⟩
      exact PySem.W.DatAll.append (DatAll.mono (fun p hp => .tail _ hp) hys) (.cons (.list (.head _) (strsAre_dat a3)) .nil)
    · obtain rfl : Value.str y u = v := Option.some.inj hv
      refine MethodCall_ ?_ (by rfl)
      w_strict k_steps
      rename Fr _ _ _ _ => FL
      rename News _ _ _ _ => NL
      refine KSpl.split0 FL NL ?_ (by rw [sizeLine_eq]; omega)
      intro S l h3 k3 e3 a3 F3 N3 l3
      rw [e3] at a3
      refine compEnd_nw (nw := [(S, W.listOf (strValues l).toArray 0)]) F3 N3 (fun p hp => by rw [List.mem_singleton.mp hp]; exact l3) off (TupSrc.mono ⟨_, _, hsub _ (.tail _ (.head _)), rfl, rfl⟩ fun p hp => .tail _ hp) ⟨fun p hp => .tail _ (hsub p hp), ?_⟩
      exact PySem.W.DatAll.append (DatAll.mono (fun p hp => .tail _ hp) hys) (.cons (.list (.head _) (strsAre_dat a3)) .nil)
  · rintro ys nx ⟨hsub, hys⟩
    clear F' N'
    w_strict k_steps
    intro D3 h3 tk3 F3 N3 hoff
    dsimp only
    w_strict k_steps
    refine ⟨_, _, _, F3, N3, fun KF KN => ?_⟩
    exact hret _ _ _ _ KF KN (fun p hp => .tail _ (hsub p (.tail _ (.tail _ hp)))) (.list (.head _) (DatAll.mono (fun p hp => .tail _ hp) hys))
theorem gs_zero {prog : Program} {w : World} {p : Program} {loose : List Str} {mean : ExcName → Option Value} {mg mb : Str → Option Value} (news : List (Addr × Obj)) (x y : Str) (t u : Tok) (sf dx : Addr) (h1 h2 h3 : Int) (t1 t2 t3 : Tok) (qv : Value) (nd : Nat) (tq : Tok) (hqv : qv = .int 0 tq)
   (hsf : (sf, instObj 189 dx) ∈ news) (hdx : (dx, dictOf [⟨h1, .str (Str.ofString "qval") t1, qv⟩, ⟨h2, .str (Str.ofString "test_func") t2, .ref 100⟩, ⟨h3, .str (Str.ofString "external") t3, .bool true⟩] nd) ∈ news)
   (hx : ascii x = true) (hy : ascii y = true) (hl : x.length ≤ 6) (hl2 : y.length ≤ 6) :
   ClaimD 12 prog w (hd.heap_39 w.params) p loose mean mg mb 108 news [.ref sf, .str x t, .str y u] (fun v nw => DatIn nw v (.list [.list ((Txt.words x).map Dat.str), .list ((Txt.words y).map Dat.str)])) := by
  subst hqv
  intro dp un gd cn cs a ccd cl outer A₀ base h₀ L m s Q E B F X N T hk hd hu hret
  obtain ⟨ck, c2, c3, c4, c5⟩ := cs
  cases hk
  refine wpAny_call ?_
  refine' rest_C ?k1 ?k2 ?k3 ?k4 ?k5 ?kA ?kF ?kK ?k6 ?k7 ?k8 ?kV ?kP ?kG ?kB ?kD ?_ ?c2 ?c3 ?c4
  (case kA => exact rfl); (case kF => exact rfl); (case kK => exact rfl); (case k1 => k_asm); (case k2 => k_asm); (case k3 => k_asm); (case k4 => k_asm); (case k5 => k_asm); (case k6 => k_is); (case k7 => k_is); (case k8 => k_room); (case kV => kl_lit); (case kP => exact rfl); (case kG => exact fun _ => rfl); (case kB => exact fun _ => rfl); (case kD => decide +kernel); (case c2 => exact rfl); (case c3 => exact rfl); (case c4 => exact rfl)
  intro Dv g' L' h' tk' cells' l1 FG' F' N' Y' B' X' T' l2
  k_cells Y'
  (try simp only [List.cons_append, List.nil_append] at N')
  dsimp only
  w_strict k_steps
  refine listComp_tup F' (by with_unfolding_all rfl) (by decide) (by rfl) (by decide) (by rfl) ?_
  w_strict k_steps
  refine ⟨Dv, #[.str x t, .str y u], _, rfl, rfl, F', N', ⟨_, _, .tail _ (.head _), rfl, rfl⟩, by rw [sizeLine_eq]; exact Nat.le_of_ble_eq_true rfl, ?_⟩
  rintro s₂ ⟨g, rfl⟩
  refine comp_invN (n := 2) (fun n0 i ys nx => (∀ p ∈ n0, p ∈ nx) ∧ DatAll nx ys (([.list ((Txt.words x).map Dat.str), .list ((Txt.words y).map Dat.str)] : List Dat).take i)) ?_ ?_ ⟨fun p hp => hp, .nil⟩
  · rintro i v I oI C oC D2 m₂ ys nx h tk E' hi hv ⟨hsub, hys⟩ hoC hx' F2 N2 off ne
    have hcm := hsub _ (.head _)
    clear F' N'
    have hi2 : i = 0 ∨ i = 1 := by omega
    rcases hi2 with rfl | rfl
    · obtain rfl : Value.str x t = v := Option.some.inj hv
      refine MethodCall_ ?_ (by rfl)
      w_strict k_steps
      rename Fr _ _ _ _ => FL
      rename News _ _ _ _ => NL
      refine KSpl.split0 FL NL ?_ (by rw [sizeLine_eq]; omega)
      intro S l h3 k3 e3 a3 F3 N3 l3
      rw [e3] at a3
      refine compEnd_nw (nw := [(S, W.listOf (strValues l).toArray 0)]) F3 N3 (fun p hp => by rw [List.mem_singleton.mp hp]; exact l3) off (TupSrc.mono ⟨_, _, hsub _ (.tail _ (.head _)), rfl, rfl⟩ fun p hp => .tail _ hp) ⟨fun p hp => .tail _ (hsub p hp), ?_⟩
      exact PySem.W.DatAll.append (DatAll.mono (fun p hp => .tail _ hp) hys) (.cons (.list (.head _) (strsAre_dat a3)) .nil)
    · obtain rfl : Value.str y u = v := Option.some.inj hv
      refine MethodCall_ ?_ (by rfl)
      w_strict k_steps
      rename Fr _ _ _ _ => FL
      rename News _ _ _ _ => NL
      refine KSpl.split0 FL NL ?_ (by rw [sizeLine_eq]; omega)
      intro S l h3 k3 e3 a3 F3 N3 l3
      rw [e3] at a3
      refine compEnd_nw (nw := [(S, W.listOf (strValues l).toArray 0)]) F3 N3 (fun p hp => by rw [List.mem_singleton.mp hp]; exact l3) off (TupSrc.mono ⟨_, _, hsub _ (.tail _ (.head _)), rfl, rfl⟩ fun p hp => .tail _ hp) ⟨fun p hp => .tail _ (hsub p hp), ?_⟩
      exact PySem.W.DatAll.append (DatAll.mono (fun p hp => .tail _ hp) hys) (.cons (.list (.head _) (strsAre_dat a3)) .nil)
  · rintro ys nx ⟨hsub, hys⟩
    clear F' N'
    w_strict k_steps
    intro D3 h3 tk3 F3 N3 hoff
    dsimp only
    w_strict k_steps
    refine ⟨_, _, _, F3, N3, fun KF KN => ?_⟩
    exact hret _ _ _ _ KF KN (fun p hp => .tail _ (hsub p (.tail _ (.tail _ hp)))) (.list (.head _) (DatAll.mono (fun p hp => .tail _ hp) hys))
theorem gs_one {prog : Program} {w : World} {p : Program} {loose : List Str} {mean : ExcName → Option Value} {mg mb : Str → Option Value} (news : List (Addr × Obj)) (x y : Str) (t u : Tok) (sf dx : Addr) (h1 h2 h3 : Int) (t1 t2 t3 : Tok) (qv : Value) (nd : Nat) (tq : Tok) (hqv : qv = .int 1 tq)
   (hsf : (sf, instObj 189 dx) ∈ news) (hdx : (dx, dictOf [⟨h1, .str (Str.ofString "qval") t1, qv⟩, ⟨h2, .str (Str.ofString "test_func") t2, .ref 100⟩, ⟨h3, .str (Str.ofString "external") t3, .bool true⟩] nd) ∈ news)
   (hx : ascii x = true) (hy : ascii y = true) (hl : x.length ≤ 6) (hl2 : y.length ≤ 6) :
   ClaimD 12 prog w (hd.heap_39 w.params) p loose mean mg mb 108 news [.ref sf, .str x t, .str y u] (fun v nw => DatIn nw v (.list [.str x, .str y])) := by
  subst hqv
  intro dp un gd cn cs a ccd cl outer A₀ base h₀ L m s Q E B F X N T hk hd hu hret
  obtain ⟨ck, c2, c3, c4, c5⟩ := cs
  cases hk
  refine wpAny_call ?_
  refine' rest_C ?k1 ?k2 ?k3 ?k4 ?k5 ?kA ?kF ?kK ?k6 ?k7 ?k8 ?kV ?kP ?kG ?kB ?kD ?_ ?c2 ?c3 ?c4
  (case kA => exact rfl); (case kF => exact rfl); (case kK => exact rfl); (case k1 => k_asm); (case k2 => k_asm); (case k3 => k_asm); (case k4 => k_asm); (case k5 => k_asm); (case k6 => k_is); (case k7 => k_is); (case k8 => k_room); (case kV => kl_lit); (case kP => exact rfl); (case kG => exact fun _ => rfl); (case kB => exact fun _ => rfl); (case kD => decide +kernel); (case c2 => exact rfl); (case c3 => exact rfl); (case c4 => exact rfl)
  intro Dv g' L' h' tk' cells' l1 FG' F' N' Y' B' X' T' l2
  k_cells Y'
  (try simp only [List.cons_append, List.nil_append] at N')
  dsimp only
  w_strict k_steps
  rename Fr g' L' _ _ => FL
  rename News g' L' _ _ => NL
  refine ⟨_, _, _, FL, NL, fun KF KN => ?_⟩
  exact hret _ _ _ _ KF KN (fun p hp => .tail _ (.tail _ (.tail _ hp))) (.list (.head _) (.cons (.str x t) (.cons (.str y u) .nil)))
theorem gs_two {prog : Program} {w : World} {p : Program} {loose : List Str} {mean : ExcName → Option Value} {mg mb : Str → Option Value} (news : List (Addr × Obj)) (x y : Str) (t u : Tok) (sf dx : Addr) (h1 h2 h3 : Int) (t1 t2 t3 : Tok) (qv : Value) (nd : Nat) (tq : Tok) (hqv : qv = .int 2 tq)
   (hsf : (sf, instObj 189 dx) ∈ news) (hdx : (dx, dictOf [⟨h1, .str (Str.ofString "qval") t1, qv⟩, ⟨h2, .str (Str.ofString "test_func") t2, .ref 100⟩, ⟨h3, .str (Str.ofString "external") t3, .bool true⟩] nd) ∈ news)
   (hx : ascii x = true) (hy : ascii y = true) (hl : x.length ≤ 6) (hl2 : y.length ≤ 6) :
   ClaimD 12 prog w (hd.heap_39 w.params) p loose mean mg mb 108 news [.ref sf, .str x t, .str y u] (fun v nw => DatIn nw v (.list [.list (grams 2 x), .list (grams 2 y)])) := by
  subst hqv
  intro dp un gd cn cs a ccd cl outer A₀ base h₀ L m s Q E B F X N T hk hd hu hret
  obtain ⟨ck, c2, c3, c4, c5⟩ := cs
  cases hk
  refine wpAny_call ?_
  refine' rest_C ?k1 ?k2 ?k3 ?k4 ?k5 ?kA ?kF ?kK ?k6 ?k7 ?k8 ?kV ?kP ?kG ?kB ?kD ?_ ?c2 ?c3 ?c4
  (case kA => exact rfl); (case kF => exact rfl); (case kK => exact rfl); (case k1 => k_asm); (case k2 => k_asm); (case k3 => k_asm); (case k4 => k_asm); (case k5 => k_asm); (case k6 => k_is); (case k7 => k_is); (case k8 => k_room); (case kV => kl_lit); (case kP => exact rfl); (case kG => exact fun _ => rfl); (case kB => exact fun _ => rfl); (case kD => decide +kernel); (case c2 => exact rfl); (case c3 => exact rfl); (case c4 => exact rfl)
  intro Dv g' L' h' tk' cells' l1 FG' F' N' Y' B' X' T' l2
  k_cells Y'
  (try simp only [List.cons_append, List.nil_append] at N')
  dsimp only
  w_strict k_steps
  refine listComp_tup F' (by with_unfolding_all rfl) (by decide) (by rfl) (by decide) (by rfl) ?_
  w_strict k_steps
  refine ⟨Dv, #[.str x t, .str y u], _, rfl, rfl, F', N', ⟨_, _, .tail _ (.head _), rfl, rfl⟩, by rw [sizeLine_eq]; exact Nat.le_of_ble_eq_true rfl, ?_⟩
  rintro s₂ ⟨g, rfl⟩
  refine comp_invN (n := 2) (fun n0 i ys nx => (∀ p ∈ n0, p ∈ nx) ∧ DatAll nx ys (([.list (grams 2 x), .list (grams 2 y)] : List Dat).take i)) ?_ ?_ ⟨fun p hp => hp, .nil⟩
  · rintro i v I oI C oC D2 m₂ ys nx h tk E' hi hv ⟨hsub, hys⟩ hoC hx' F2 N2 off ne
    have hcm := hsub _ (.head _)
    clear F' N'
    have hi2 : i = 0 ∨ i = 1 := by omega
    rcases hi2 with rfl | rfl
    · obtain rfl : Value.str x t = v := Option.some.inj hv
      have hsf3 := mem_under3 N2 (hsub _ (.tail _ (.tail _ hsf)))
      have hdx3 := mem_under3 N2 (hsub _ (.tail _ (.tail _ hdx)))
      have hcm3 := mem_under3 N2 hcm
      refine Call_ ?_ (by rfl)
      w_strict k_steps
      rename Fr g' L' _ _ => FL
      rename News g' L' _ _ => NL
      refine' (ngrams_walk _ x t tq 2 (by decide) hx hl) _ _ _ _ _ _ _ _ _ _ _ _ _ _ _ _ _ B' FL X' NL T' ?kk ?hd ?hu ?_
      (case kk => exact rfl); (case hd => ktr_room); (case hu => ktr_units)
      intro v3 h3 tk3 nw F3 N3 l3 hD
      refine compEnd_nw (nw := nw) F3 N3 l3 off (TupSrc.mono ⟨_, _, hsub _ (.tail _ (.head _)), rfl, rfl⟩ fun p hp => List.mem_append_right _ hp) ⟨fun p hp => List.mem_append_right _ (hsub p hp), ?_⟩
      exact PySem.W.DatAll.append (DatAll.mono (fun p hp => List.mem_append_right _ hp) hys) (.cons (hD.mono fun p hp => List.mem_append_left _ hp) .nil)
    · obtain rfl : Value.str y u = v := Option.some.inj hv
      have hsf3 := mem_under3 N2 (hsub _ (.tail _ (.tail _ hsf)))
      have hdx3 := mem_under3 N2 (hsub _ (.tail _ (.tail _ hdx)))
      have hcm3 := mem_under3 N2 hcm
      refine Call_ ?_ (by rfl)
      w_strict k_steps
      rename Fr g' L' _ _ => FL
      rename News g' L' _ _ => NL
      refine' (ngrams_walk _ y u tq 2 (by decide) hy hl2) _ _ _ _ _ _ _ _ _ _ _ _ _ _ _ _ _ B' FL X' NL T' ?kk ?hd ?hu ?_
      (case kk => exact rfl); (case hd => ktr_room); (case hu => ktr_units)
      intro v3 h3 tk3 nw F3 N3 l3 hD
      refine compEnd_nw (nw := nw) F3 N3 l3 off (TupSrc.mono ⟨_, _, hsub _ (.tail _ (.head _)), rfl, rfl⟩ fun p hp => List.mem_append_right _ hp) ⟨fun p hp => List.mem_append_right _ (hsub p hp), ?_⟩
      exact PySem.W.DatAll.append (DatAll.mono (fun p hp => List.mem_append_right _ hp) hys) (.cons (hD.mono fun p hp => List.mem_append_left _ hp) .nil)
  · rintro ys nx ⟨hsub, hys⟩
    clear F' N'
    w_strict k_steps
    intro D3 h3 tk3 F3 N3 hoff
    dsimp only
    w_strict k_steps
    refine ⟨_, _, _, F3, N3, fun KF KN => ?_⟩
    exact hret _ _ _ _ KF KN (fun p hp => .tail _ (hsub p (.tail _ (.tail _ hp)))) (.list (.head _) (DatAll.mono (fun p hp => .tail _ hp) hys))
theorem gs_three {prog : Program} {w : World} {p : Program} {loose : List Str} {mean : ExcName → Option Value} {mg mb : Str → Option Value} (news : List (Addr × Obj)) (x y : Str) (t u : Tok) (sf dx : Addr) (h1 h2 h3 : Int) (t1 t2 t3 : Tok) (qv : Value) (nd : Nat) (tq : Tok) (hqv : qv = .int 3 tq)
   (hsf : (sf, instObj 189 dx) ∈ news) (hdx : (dx, dictOf [⟨h1, .str (Str.ofString "qval") t1, qv⟩, ⟨h2, .str (Str.ofString "test_func") t2, .ref 100⟩, ⟨h3, .str (Str.ofString "external") t3, .bool true⟩] nd) ∈ news)
   (hx : ascii x = true) (hy : ascii y = true) (hl : x.length ≤ 6) (hl2 : y.length ≤ 6) :
   ClaimD 12 prog w (hd.heap_39 w.params) p loose mean mg mb 108 news [.ref sf, .str x t, .str y u] (fun v nw => DatIn nw v (.list [.list (grams 3 x), .list (grams 3 y)])) := by
  subst hqv
  intro dp un gd cn cs a ccd cl outer A₀ base h₀ L m s Q E B F X N T hk hd hu hret
  obtain ⟨ck, c2, c3, c4, c5⟩ := cs
  cases hk
  refine wpAny_call ?_
  refine' rest_C ?k1 ?k2 ?k3 ?k4 ?k5 ?kA ?kF ?kK ?k6 ?k7 ?k8 ?kV ?kP ?kG ?kB ?kD ?_ ?c2 ?c3 ?c4
  (case kA => exact rfl); (case kF => exact rfl); (case kK => exact rfl); (case k1 => k_asm); (case k2 => k_asm); (case k3 => k_asm); (case k4 => k_asm); (case k5 => k_asm); (case k6 => k_is); (case k7 => k_is); (case k8 => k_room); (case kV => kl_lit); (case kP => exact rfl); (case kG => exact fun _ => rfl); (case kB => exact fun _ => rfl); (case kD => decide +kernel); (case c2 => exact rfl); (case c3 => exact rfl); (case c4 => exact rfl)
  intro Dv g' L' h' tk' cells' l1 FG' F' N' Y' B' X' T' l2
  k_cells Y'
  (try simp only [List.cons_append, List.nil_append] at N')
  dsimp only
  w_strict k_steps
  refine listComp_tup F' (by with_unfolding_all rfl) (by decide) (by rfl) (by decide) (by rfl) ?_
  w_strict k_steps
  refine ⟨Dv, #[.str x t, .str y u], _, rfl, rfl, F', N', ⟨_, _, .tail _ (.head _), rfl, rfl⟩, by rw [sizeLine_eq]; exact Nat.le_of_ble_eq_true rfl, ?_⟩
  rintro s₂ ⟨g, rfl⟩
  refine comp_invN (n := 2) (fun n0 i ys nx => (∀ p ∈ n0, p ∈ nx) ∧ DatAll nx ys (([.list (grams 3 x), .list (grams 3 y)] : List Dat).take i)) ?_ ?_ ⟨fun p hp => hp, .nil⟩
  · rintro i v I oI C oC D2 m₂ ys nx h tk E' hi hv ⟨hsub, hys⟩ hoC hx' F2 N2 off ne
    have hcm := hsub _ (.head _)
    clear F' N'
    have hi2 : i = 0 ∨ i = 1 := by omega
    rcases hi2 with rfl | rfl
    · obtain rfl : Value.str x t = v := Option.some.inj hv
      have hsf3 := mem_under3 N2 (hsub _ (.tail _ (.tail _ hsf)))
      have hdx3 := mem_under3 N2 (hsub _ (.tail _ (.tail _ hdx)))
      have hcm3 := mem_under3 N2 hcm
      refine Call_ ?_ (by rfl)
      w_strict k_steps
      rename Fr g' L' _ _ => FL
      rename News g' L' _ _ => NL
      refine' (ngrams_walk _ x t tq 3 (by decide) hx hl) _ _ _ _ _ _ _ _ _ _ _ _ _ _ _ _ _ B' FL X' NL T' ?kk ?hd ?hu ?_
      (case kk => exact rfl); (case hd => ktr_room); (case hu => ktr_units)
      intro v3 h3 tk3 nw F3 N3 l3 hD
      refine compEnd_nw (nw := nw) F3 N3 l3 off (TupSrc.mono ⟨_, _, hsub _ (.tail _ (.head _)), rfl, rfl⟩ fun p hp => List.mem_append_right _ hp) ⟨fun p hp => List.mem_append_right _ (hsub p hp), ?_⟩
      exact PySem.W.DatAll.append (DatAll.mono (fun p hp => List.mem_append_right _ hp) hys) (.cons (hD.mono fun p hp => List.mem_append_left _ hp) .nil)
    · obtain rfl : Value.str y u = v := Option.some.inj hv
      have hsf3 := mem_under3 N2 (hsub _ (.tail _ (.tail _ hsf)))
      have hdx3 := mem_under3 N2 (hsub _ (.tail _ (.tail _ hdx)))
      have hcm3 := mem_under3 N2 hcm
      refine Call_ ?_ (by rfl)
      w_strict k_steps
      rename Fr g' L' _ _ => FL
      rename News g' L' _ _ => NL
      refine' (ngrams_walk _ y u tq 3 (by decide) hy hl2) _ _ _ _ _ _ _ _ _ _ _ _ _ _ _ _ _ B' FL X' NL T' ?kk ?hd ?hu ?_
      (case kk => exact rfl); (case hd => ktr_room); (case hu => ktr_units)
      intro v3 h3 tk3 nw F3 N3 l3 hD
      refine compEnd_nw (nw := nw) F3 N3 l3 off (TupSrc.mono ⟨_, _, hsub _ (.tail _ (.head _)), rfl, rfl⟩ fun p hp => List.mem_append_right _ hp) ⟨fun p hp => List.mem_append_right _ (hsub p hp), ?_⟩
      exact PySem.W.DatAll.append (DatAll.mono (fun p hp => List.mem_append_right _ hp) hys) (.cons (hD.mono fun p hp => List.mem_append_left _ hp) .nil)
  · rintro ys nx ⟨hsub, hys⟩
    clear F' N'
    w_strict k_steps
    intro D3 h3 tk3 F3 N3 hoff
    dsimp only
    w_strict k_steps
    refine ⟨_, _, _, F3, N3, fun KF KN => ?_⟩
    exact hret _ _ _ _ KF KN (fun p hp => .tail _ (hsub p (.tail _ (.tail _ hp)))) (.list (.head _) (DatAll.mono (fun p hp => .tail _ hp) hys))
end Mine
end
-- R1
theorem Mine.off_R1 : True := by
  w_top off
  trivial
section
open PySem PySem.W PySem.Spec PySem.Calls PyProof.Rows PyProof.V
set_option maxRecDepth 100000
set_option maxHeartbeats 4000000
namespace Mine
/-- the five questions of the law -/
inductive Qv where
  | none | zero | one | two | three
def qVal (t : Tok) : Qv → Value
  | .none => .none
  | .zero => .int 0 t
  | .one => .int 1 t
  | .two => .int 2 t
  | .three => .int 3 t
def itemsOf (x : Str) : Qv → List Dat
  | .none => (Txt.words x).map Dat.str
  | .zero => (Txt.words x).map Dat.str
  | .one => signs x
  | .two => grams 2 x
  | .three => grams 3 x
def rowD (x : Str) : Qv → Dat
  | .none => .list ((Txt.words x).map Dat.str)
  | .zero => .list ((Txt.words x).map Dat.str)
  | .one => .str x
  | .two => .list (grams 2 x)
  | .three => .list (grams 3 x)
theorem words_ascii {x : Str} (h : ascii x = true) : ∀ a ∈ Txt.words x, ascii a = true := by
  intro a ha
  unfold Txt.words at ha
  split at ha
  · rw [List.mem_singleton] at ha; rw [ha]; exact h
  have e : PySem.wordsOf x = (Builtin.Str.spaceWords x (x.length + 1)).map fun (i, j) => Builtin.Str.strSub x i j := rfl
  rw [e] at ha
  obtain ⟨⟨c, d⟩, _, rfl⟩ := List.mem_map.mp ha
  unfold ascii at h ⊢
  rw [Array.all_eq_true] at h ⊢
  intro i hi
  have hi' : i < (x.cps.extract c d).size := hi
  have e2 : (x.cps.extract c d)[i] = x.cps[c + i]'(by rw [Array.size_extract] at hi'; omega) := Array.getElem_extract hi'
  show decide ((x.cps.extract c d)[i] < 128) = true
  rw [e2]
  exact h (c + i) _
theorem ascii_ok {x : Str} (h : ascii x = true) (n : Nat) : kqdOk n (.str x) = true := by
  have e : kqdOk n (.str x) = PyData.strOk x := by cases n <;> rfl
  rw [e]
  unfold PyData.strOk
  unfold ascii at h
  rw [Array.all_eq_true] at h ⊢
  intro i hi
  have := h i hi
  simp only [decide_eq_true_eq] at this ⊢
  omega
theorem sgn_ascii {x : Str} (h : ascii x = true) (i : Nat) : ascii (sgn x i) = true := by
  unfold ascii sgn at *
  rw [Array.all_eq_true] at h
  have hz : x.cps[i]?.getD 0 < 128 := by
    rcases Nat.lt_or_ge i x.cps.size with hi | hi
    · rw [Array.getElem?_eq_getElem hi]
      simpa using h i hi
    · rw [Array.getElem?_eq_none hi]; decide
  simp [hz]
theorem grams_length (n : Nat) (x : Str) : (grams n x).length = x.length + 1 - n := by simp [grams]
theorem grams_getD {n : Nat} {x : Str} {i : Nat} (hi : i < (grams n x).length) : (grams n x).getD i .none = .tuple (((List.range n).map fun k => sgn x (i + k)).map Dat.str) := by
  rw [grams_length] at hi
  simp [grams, List.getD, hi, List.map_map, Function.comp_def]
theorem signs_ok {x : Str} (h : ascii x = true) : ∀ d ∈ signs x, kqdOk 8 d = true := by
  intro d hd
  obtain ⟨i, hi, rfl⟩ := List.mem_map.mp hd
  have e : Txt.item x (i : Int) = sgn x i := by
    have hi' : i < x.cps.size := List.mem_range.mp hi
    unfold Txt.item Txt.charAt sgn
    rw [StrLaws.seqIndex_nonneg (by omega) (by simp [Str.length]; omega)]
    simp [hi']
  rw [e]
  exact ascii_ok (sgn_ascii h i) 8
theorem grams_ok {n : Nat} {x : Str} (h : ascii x = true) : ∀ d ∈ grams n x, kqdOk 8 d = true := by
  intro d hd
  obtain ⟨i, _, rfl⟩ := List.mem_map.mp hd
  show (((List.range n).map fun k => Dat.str (sgn x (i + k))).all (kqdOk 7)) = true
  rw [List.all_eq_true]
  intro e he
  obtain ⟨k, _, rfl⟩ := List.mem_map.mp he
  exact ascii_ok (sgn_ascii h _) 7
theorem words_ok {x : Str} (h : ascii x = true) : ∀ d ∈ (Txt.words x).map Dat.str, kqdOk 8 d = true := by
  intro d hd
  obtain ⟨a, ha, rfl⟩ := List.mem_map.mp hd
  exact ascii_ok (words_ascii h a ha) 8
theorem items_ok {x : Str} (h : ascii x = true) (q : Qv) : ∀ d ∈ itemsOf x q, kqdOk 8 d = true := by
  cases q with
  | none => exact words_ok h
  | zero => exact words_ok h
  | one => exact signs_ok h
  | two => exact grams_ok h
  | three => exact grams_ok h
theorem items_len {x : Str} (h : x.length ≤ 6) (q : Qv) : (itemsOf x q).length ≤ 6 := by
  have hw : ((Txt.words x).map Dat.str).length ≤ 6 := by
    have := fact_words x
    rw [List.length_map]; omega
  cases q with
  | none => exact hw
  | zero => exact hw
  | one => show (signs x).length ≤ 6; rw [signs_length]; exact h
  | two => show (grams 2 x).length ≤ 6; rw [grams_length]; omega
  | three => show (grams 3 x).length ≤ 6; rw [grams_length]; omega
theorem strs_getD {ys : List Str} {i : Nat} (hi : i < (ys.map Dat.str).length) : ∃ y, (ys.map Dat.str).getD i .none = .str y := by
  rw [List.length_map] at hi
  exact ⟨ys[i], by simp [List.getD, hi]⟩
theorem items_sort (x y : Str) (q : Qv) : ∀ i j : Nat, i < (itemsOf x q).length → j < (itemsOf y q).length → Sort2 ((itemsOf x q).getD i .none) ((itemsOf y q).getD j .none) := by
  intro i j hi hj
  have hw : ∀ xs ys : List Str, i < (xs.map Dat.str).length → j < (ys.map Dat.str).length → Sort2 ((xs.map Dat.str).getD i .none) ((ys.map Dat.str).getD j .none) := fun xs ys hi hj => by
    obtain ⟨a, ea⟩ := strs_getD hi
    obtain ⟨b, eb⟩ := strs_getD hj
    rw [ea, eb]; exact .str a b
  cases q with
  | none => exact hw _ _ hi hj
  | zero => exact hw _ _ hi hj
  | one =>
    have e : ∀ z : Str, itemsOf z .one = ((List.range z.length).map fun k : Nat => Txt.item z (k : Int)).map Dat.str := fun z => by show signs z = _; simp [signs, List.map_map, Function.comp_def]
    rw [e] at hi hj
    rw [e, e]
    exact hw _ _ hi hj
  | two =>
    show Sort2 ((grams 2 x).getD i .none) ((grams 2 y).getD j .none)
    rw [grams_getD hi, grams_getD hj]; exact .tup _ _
  | three =>
    show Sort2 ((grams 3 x).getD i .none) ((grams 3 y).getD j .none)
    rw [grams_getD hi, grams_getD hj]; exact .tup _ _
open Classical in
/-- the rows that _get_sequences hands back, and whether they are equal -/
theorem rows_two {news : List (Addr × Obj)} {v u : Value} {x y : Str} (q : Qv) (hx : ascii x = true) (hy : ascii y = true) (h1 : DatIn news v (rowD x q)) (h2 : DatIn news u (rowD y q)) : ∃ b, Two news v u (itemsOf x q) (itemsOf y q) b := by
  have hl : ∀ ds es : List Dat, (∀ d ∈ ds, kqdOk 8 d = true) → (∀ d ∈ es, kqdOk 8 d = true) → DatIn news v (.list ds) → DatIn news u (.list es) → ∃ b, Two news v u ds es b := fun ds es o1 o2 h1 h2 => by
    cases h1 with
    | list m1 r1 =>
      cases h2 with
      | list m2 r2 => exact ⟨_, .list m1 m2 r1 r2 o1 o2⟩
  cases q with
  | none => exact hl _ _ (items_ok hx .none) (items_ok hy .none) h1 h2
  | zero => exact hl _ _ (items_ok hx .zero) (items_ok hy .zero) h1 h2
  | one =>
    cases h1 with
    | str _ t =>
      cases h2 with
      | str _ t' => exact ⟨_, .str x y t t'⟩
  | two => exact hl _ _ (items_ok hx .two) (items_ok hy .two) h1 h2
  | three => exact hl _ _ (items_ok hx .three) (items_ok hy .three) h1 h2
theorem gs_walk {prog : Program} {w : World} {p : Program} {loose : List Str} {mean : ExcName → Option Value} {mg mb : Str → Option Value} (news : List (Addr × Obj)) (x y : Str) (t u : Tok) (sf dx : Addr) (h1 h2 h3 : Int) (t1 t2 t3 tq : Tok) (q : Qv) (nd : Nat)
   (hsf : (sf, instObj 189 dx) ∈ news) (hdx : (dx, dictOf [⟨h1, .str (Str.ofString "qval") t1, qVal tq q⟩, ⟨h2, .str (Str.ofString "test_func") t2, .ref 100⟩, ⟨h3, .str (Str.ofString "external") t3, .bool true⟩] nd) ∈ news)
   (hx : ascii x = true) (hy : ascii y = true) (hl : x.length ≤ 6) (hl2 : y.length ≤ 6) :
   ClaimD 12 prog w (hd.heap_39 w.params) p loose mean mg mb 108 news [.ref sf, .str x t, .str y u] (fun v nw => DatIn nw v (.list [rowD x q, rowD y q])) := by
  cases q with
  | none => exact gs_none news x y t u sf dx h1 h2 h3 t1 t2 t3 _ nd rfl hsf hdx hx hy hl hl2
  | zero => exact gs_zero news x y t u sf dx h1 h2 h3 t1 t2 t3 _ nd tq rfl hsf hdx hx hy hl hl2
  | one => exact gs_one news x y t u sf dx h1 h2 h3 t1 t2 t3 _ nd tq rfl hsf hdx hx hy hl hl2
  | two => exact gs_two news x y t u sf dx h1 h2 h3 t1 t2 t3 _ nd tq rfl hsf hdx hx hy hl hl2
  | three => exact gs_three news x y t u sf dx h1 h2 h3 t1 t2 t3 _ nd tq rfl hsf hdx hx hy hl hl2
end Mine
end
-- D1
theorem Mine.off_D1 : True := by
  w_top off
  trivial
section
open PySem PySem.W PySem.Spec PySem.Calls PyProof.Rows PyProof.V
namespace Mine
theorem DD_nonneg (e : Nat → Nat → Bool) : ∀ r c, 0 ≤ DD e r c := by
  intro r
  induction r with
  | zero => intro c; rw [DD_zero]; omega
  | succ r ih =>
    intro c
    induction c with
    | zero => rw [DD_left]; omega
    | succ c ihc =>
      rw [DD_step]
      have h1 := ih c
      have h2 := ih (c + 1)
      split <;> omega
theorem DD_le (e : Nat → Nat → Bool) : ∀ r c, DD e r c ≤ ((max r c : Nat) : Int) := by
  intro r
  induction r with
  | zero => intro c; rw [DD_zero]; omega
  | succ r ih =>
    intro c
    cases c with
    | zero => rw [DD_left]; omega
    | succ c =>
      rw [DD_step]
      have h1 := ih c
      split <;> omega
theorem DD_diag {e : Nat → Nat → Bool} (n : Nat) (h : ∀ r, r < n → e r r = true) : DD e n n = 0 := by
  induction n with
  | zero => rw [DD_zero]; rfl
  | succ n ih =>
    have h1 := DD_nonneg e (n + 1) n
    have h2 := DD_nonneg e n (n + 1)
    have h3 := ih fun r hr => h r (by omega)
    rw [DD_step, h n (by omega), h3]
    simp only [if_true]
    omega
open Classical in
/-- the distance of two rows of data -/
noncomputable def levD (ds es : List Dat) : Int := DD (fun r c => decide (ds.getD r .none = es.getD c .none)) ds.length es.length
theorem levD_same (ds : List Dat) : levD ds ds = 0 := by
  unfold levD
  exact DD_diag _ fun _ _ => by simp
theorem levD_empty {ds es : List Dat} (h : ds.length = 0 ∨ es.length = 0) : levD ds es = ((max ds.length es.length : Nat) : Int) := by
  unfold levD
  rcases h with h | h
  · rw [h, DD_zero]; simp
  · rw [h, DD_left]; simp
theorem levD_nonneg (ds es : List Dat) : 0 ≤ levD ds es := DD_nonneg _ _ _
theorem levD_le (ds es : List Dat) : levD ds es ≤ ((max ds.length es.length : Nat) : Int) := DD_le _ _ _
end Mine
end
-- K0
theorem Mine.off_K0 : True := by
  w_top off
  trivial
section
open PySem PySem.W PySem.Spec PySem.Calls PyProof.Rows PyProof.V
set_option maxRecDepth 100000
namespace Mine
section
variable {M : Model} {A : Around} {E : Value → Shared → Prop} {s : Shared} {env : Env} {pos p : Pos} {x C : Addr} {ox : Obj} {od : Option Obj} {first : List Value} {Q : Value → Shared → Prop} {e : Expr}
/-- an object of an own class is called with a star -/
theorem own_star (hd : ox.data = .plain)
    (h : wpAny M A (eval e env) (fun v s₁ => StarOf M A E v (fun vs s₂ => InstAt s₂.heap x ox C od ∧ wpAny M A (call (.ref x) (first ++ vs)) Q E s₂) s₁) E s)
    (he : starEach [.Starred e p] env = [(true, eval e env)] := by rfl) :
    wpAny M A (callWith pos (.ref x) first (backTo pos (starEach [.Starred e p] env)) []) Q E s := by
  rw [he]
  unfold callWith
  refine wpAny_bind (wpAny_holding (wpAny_mono (ks_lone (Q := fun a s₂ => InstAt s₂.heap x ox C od ∧ wpAny M A (call (.ref x) (first ++ a.pos) a.kw) Q E s₂) h) (fun a s₁ h₁ => wpAny_bind (wpAny_standAt ?_)) fun _ _ y => y))
  refine wpAny_bind ((kco_keeper (M := M) h₁.1 hd).here ?_)
  have tail : ∀ {t : Sem Value}, wpAny M A t Q E s₁ → wpAny M A (t >>= fun r => holding [r] point >>= fun _ => pure r) Q E s₁ :=
    fun ht => wpAny_bind (wpAny_mono ht (fun r s₂ hr => wpAny_bind (wpAny_holding (wpAny_point (wpAny_pure hr)))) fun _ _ y => y)
  exact tail (wpAny_operateT h₁.2)
/-- a bound method, made anew, is called with a star -/
theorem meth_star {K : Frag} {q g : Addr} {self : Value} (hf : fnIn K g = true)
    (h : wpAny M A (eval e env) (fun v s₁ => StarOf M A E v (fun vs s₂ => MethP K q g self s₂.heap ∧ wpAny M A (call (.ref q) (first ++ vs)) Q E s₂) s₁) E s)
    (he : starEach [.Starred e p] env = [(true, eval e env)] := by rfl) :
    wpAny M A (callWith pos (.ref q) first (backTo pos (starEach [.Starred e p] env)) []) Q E s := by
  rw [he]
  exact ks_call rfl (keeps_M hf) (ks_lone h)
end
end Mine
end
-- K1
theorem Mine.off_K1 : True := by
  w_top off
  trivial
section
open PySem PySem.W PySem.Spec PySem.Calls PyProof.Rows PyProof.V
set_option maxRecDepth 100000
set_option maxHeartbeats 8000000
namespace Mine
theorem ClaimS.eq {k : Nat} {prog : Program} {w : World} {K : Frag} {p : Program} {loose : List Str} {mean : ExcName → Option Value} {mg mb : Str → Option Value} {f : Addr} {news : List (Addr × Obj)} {vs : List Value} {R R' : Tok → Value}
    (c : ClaimS k prog w K p loose mean mg mb f news vs R) (h : ∀ t, R t = R' t) : ClaimS k prog w K p loose mean mg mb f news vs R' := by
  obtain rfl : R = R' := funext h
  exact c
abbrev ClaimC (k : Nat) (prog : Program) (w : World) (K : Frag) (p : Program) (loose : List Str) (mean : ExcName → Option Value) (mg mb : Str → Option Value) (f : Addr) (news : List (Addr × Obj)) (vs : List Value) (R : Tok → Value) : Prop :=
  ∀ (dp un : Nat) (gd : Option (List Code)) (cn : Str) (cs : Scope) (a : Addr) (ccd : Value) (cl : List (Str × Addr)) (outer : List Env) (A₀ : Around) (base h₀ : Heap) (L : Addr) (m : Str → Option Value) (s : Shared) (Q E : Value → Shared → Prop),
    Below A₀ base outer h₀ → Fr h₀ L s.heap m → K.In h₀ → News h₀ L s.heap news → Top p loose mean mg mb h₀ → K.In base → Top p loose mean mg mb base → KtsDicts (outer.filterMap (·.frame)) h₀ → cs.kind = .function →
    dp + k < recursionLimit → un + 10 * k < cLine → RetS K p loose mean mg mb A₀ base outer h₀ L m news s Q R →
      codeAny (model prog w) (ktrTop dp un gd cn cs L a ccd cl outer) (.call (.ref f) ⟨vs, []⟩) (fun r s' => match r with | .ok (.ret v) => Q v s' | .ok _ => False | .error e => E e s') s
theorem ClaimC.toS {k : Nat} {prog : Program} {w : World} {K : Frag} {p : Program} {loose : List Str} {mean : ExcName → Option Value} {mg mb : Str → Option Value} {f : Addr} {news : List (Addr × Obj)} {vs : List Value} {R : Tok → Value}
    (c : ClaimC k prog w K p loose mean mg mb f news vs R) : ClaimS k prog w K p loose mean mg mb f news vs R := by
  intro dp un gd cn cs a ccd cl outer A₀ base h₀ L m s Q E B F X N T XB TB D hk hd hu hret
  exact wpAny_call (c dp un gd cn cs a ccd cl outer A₀ base h₀ L m s Q E B F X N T XB TB D hk hd hu hret)
local macro_rules | `(tactic| k_room) => `(tactic| ktr_room)
local macro_rules | `(tactic| k_units) => `(tactic| ktr_units)
local macro_rules | `(tactic| k_mem) => `(tactic| assumption)
local macro_rules | `(tactic| k_steps) => `(tactic| repeat' ((fail_if_success (with_reducible show wpAny _ _ (call (Value.ref _) _) _ _ _)); first | (k_unfold; (try dsimp only)) | (k_end; wrow_close) | walk1 | (dsimp only; walk1) | (leave1; walk_say "STEP leave1"; try dsimp only) | fail "no step"))
theorem call_code {prog : Program} {w : World} {p : Program} {loose : List Str} {mean : ExcName → Option Value} {mg mb : Str → Option Value} (news : List (Addr × Obj)) (x y : Str) (t u : Tok) (sf dx : Addr) (h1 h2 h3 : Int) (t1 t2 t3 tq : Tok) (q : Qv) (nd : Nat)
   (hsf : (sf, instObj 189 dx) ∈ news) (hdx : (dx, dictOf [⟨h1, .str (Str.ofString "qval") t1, qVal tq q⟩, ⟨h2, .str (Str.ofString "test_func") t2, .ref 100⟩, ⟨h3, .str (Str.ofString "external") t3, .bool true⟩] nd) ∈ news)
   (hx : ascii x = true) (hy : ascii y = true) (hl : x.length ≤ 6) (hl2 : y.length ≤ 6) :
   ClaimC 20 prog w (hd.heap_39 w.params) p loose mean mg mb 186 news [.ref sf, .str x t, .str y u] (fun t => .int (levD (itemsOf x q) (itemsOf y q)) t) := by
  intro dp un gd cn cs a ccd cl outer A₀ base h₀ L m s Q E B F X N T XB TB D hk hd hu hret
  obtain ⟨ck, c2, c3, c4, c5⟩ := cs
  cases hk
  refine' plain_S ?k1 ?k2 ?k3 ?k4 ?k5 ?kD ?kA ?kF ?kK ?k6 ?k7 ?k8 ?k9 ?kB ?_ ?c2 ?c3 ?c4 ?c5
  (case kA => exact rfl); (case kF => exact rfl); (case kK => exact rfl); (case k1 => k_asm); (case k2 => k_asm); (case k3 => k_asm); (case k4 => k_asm); (case k5 => k_asm); (case kD => assumption); (case k6 => k_is); (case k7 => k_is); (case k8 => k_room); (case k9 => exact BindsTo.of_eq rfl); (case kB => exact locs rfl); (case c5 => decide); (case c2 => exact rfl); (case c3 => exact rfl); (case c4 => exact rfl)
  intro g' L' h' FG' F' N' B' X' T' D'
  dsimp only
  w_strict k_steps
  rename Fr g' L' _ _ => FL
  rename News g' L' _ _ => NL
  refine' (gs_walk _ x y t u sf dx h1 h2 h3 t1 t2 t3 tq q nd hsf hdx hx hy hl hl2) _ _ _ _ _ _ _ _ _ _ _ _ _ _ _ _ _ B' FL X' NL T' ?kk ?hd ?hu ?_
  (case kk => exact rfl); (case hd => ktr_room); (case hu => ktr_units)
  intro v9 h9 tk9 n9 F9 N9 l9 hD
  clear FL NL
  cases hD with
  | list m9 r9 =>
    cases r9 with
    | cons d1 r9 =>
      cases r9 with
      | cons d2 r9 =>
        cases r9
        obtain ⟨b, hb⟩ := rows_two q hx hy d1 d2
        have hsf9 := l9 _ hsf
        have hdx9 := l9 _ hdx
        w_strict k_steps
        rename Fr g' L' _ _ => FL
        rename News g' L' _ _ => NL
        cases b with
        | true =>
          refine' ((quick_walk _ _ _ _ _ true sf dx h1 h2 h3 t1 t2 t3 (qVal tq q) nd hsf9 hdx9 hb (items_len hl q) (items_len hl2 q)).eq (R' := fun t => .int 0 t) (fun _ => rfl)) _ _ _ _ _ _ _ _ _ _ _ _ _ _ _ _ _ B' FL X' NL T' XB TB D' ?kk ?hd ?hu ?_
          (case kk => exact rfl); (case hd => ktr_room); (case hu => ktr_units)
          intro t8 h8 tk8 g9 kT kB kF kX kN kP kD
          clear FL NL
          dsimp only
          w_strict k_steps
          dsimp only
          rename Fr g9 L' _ _ => F5
          rename News g9 L' _ _ => N5
          refine lvS_ret kT F5 N5 XB TB D l9 fun h₀' yT yB yF yX yN yP yD => ?_
          exact val_eq (hret _ _ _ h₀' yT yB yF yX yN yP yD) (by dsimp only; rw [hb.same rfl, levD_same])
        | false =>
          by_cases hz : (itemsOf x q).length = 0 ∨ (itemsOf y q).length = 0
          · refine' ((quick_walk _ _ _ _ _ false sf dx h1 h2 h3 t1 t2 t3 (qVal tq q) nd hsf9 hdx9 hb (items_len hl q) (items_len hl2 q)).eq (R' := fun t => .int (levD (itemsOf x q) (itemsOf y q)) t) (fun _ => by rw [if_neg (by decide), if_pos hz, levD_empty hz])) _ _ _ _ _ _ _ _ _ _ _ _ _ _ _ _ _ B' FL X' NL T' XB TB D' ?kk ?hd ?hu ?_
            (case kk => exact rfl); (case hd => ktr_room); (case hu => ktr_units)
            intro t8 h8 tk8 g9 kT kB kF kX kN kP kD
            clear FL NL
            dsimp only
            w_strict k_steps
            dsimp only
            rename Fr g9 L' _ _ => F5
            rename News g9 L' _ _ => N5
            refine lvS_ret kT F5 N5 XB TB D l9 fun h₀' yT yB yF yX yN yP yD => ?_
            exact hret _ _ _ h₀' yT yB yF yX yN yP yD
          · refine' ((quick_walk _ _ _ _ _ false sf dx h1 h2 h3 t1 t2 t3 (qVal tq q) nd hsf9 hdx9 hb (items_len hl q) (items_len hl2 q)).eq (R' := fun t => .none) (fun _ => by rw [if_neg (by decide), if_neg hz])) _ _ _ _ _ _ _ _ _ _ _ _ _ _ _ _ _ B' FL X' NL T' XB TB D' ?kk ?hd ?hu ?_
            (case kk => exact rfl); (case hd => ktr_room); (case hu => ktr_units)
            intro t8 h8 tk8 g9 kT kB kF kX kN kP kD
            clear FL NL B' X' T' D' FG'
            dsimp only
            w_strict k_steps
            rename Fr g9 L' _ _ => FL
            rename News g9 L' _ _ => NL
            refine' (cycled_walk _ _ _ _ _ sf dx h1 h2 h3 t1 t2 t3 (qVal tq q) nd hsf9 hdx9 hb.left hb.right (items_len hl q) (items_len hl2 q) (items_sort x y q)) _ _ _ _ _ _ _ _ _ _ _ _ _ _ _ _ _ kB FL kX NL kP ?kk ?hd ?hu ?_
            (case kk => exact rfl); (case hd => ktr_room); (case hu => ktr_units)
            intro t7 h7 tk7 F7 N7
            clear FL NL
            w_strict k_steps
            dsimp only
            refine lvS_ret kT F7 N7 XB TB D l9 fun h₀' yT yB yF yX yN yP yD => ?_
            exact hret _ _ _ h₀' yT yB yF yX yN yP yD
end Mine
end
-- K2
theorem Mine.off_K2 : True := by
  w_top off
  trivial
section
open PySem PySem.W PySem.Spec PySem.Calls PyProof.Rows PyProof.V
set_option maxRecDepth 100000
set_option maxHeartbeats 8000000
namespace Mine
local macro_rules | `(tactic| k_room) => `(tactic| ktr_room)
local macro_rules | `(tactic| k_units) => `(tactic| ktr_units)
local macro_rules | `(tactic| k_mem) => `(tactic| assumption)
local macro_rules | `(tactic| k_steps) => `(tactic| repeat' ((fail_if_success (with_reducible show wpAny _ _ (call (Value.ref _) _) _ _ _)); first | (k_unfold; (try dsimp only)) | (k_end; wrow_close) | walk1 | (dsimp only; walk1) | (leave1; walk_say "STEP leave1"; try dsimp only) | fail "no step"))
theorem distance_code {prog : Program} {w : World} {p : Program} {loose : List Str} {mean : ExcName → Option Value} {mg mb : Str → Option Value} (news : List (Addr × Obj)) (x y : Str) (t u : Tok) (sf dx : Addr) (h1 h2 h3 : Int) (t1 t2 t3 tq : Tok) (q : Qv) (nd : Nat)
   (hsf : (sf, instObj 189 dx) ∈ news) (hdx : (dx, dictOf [⟨h1, .str (Str.ofString "qval") t1, qVal tq q⟩, ⟨h2, .str (Str.ofString "test_func") t2, .ref 100⟩, ⟨h3, .str (Str.ofString "external") t3, .bool true⟩] nd) ∈ news)
   (hx : ascii x = true) (hy : ascii y = true) (hl : x.length ≤ 6) (hl2 : y.length ≤ 6) :
   ClaimC 24 prog w (hd.heap_39 w.params) p loose mean mg mb 65 news [.ref sf, .str x t, .str y u] (fun t => .int (levD (itemsOf x q) (itemsOf y q)) t) := by
  intro dp un gd cn cs a ccd cl outer A₀ base h₀ L m s Q E B F X N T XB TB D hk hd hu hret
  obtain ⟨ck, c2, c3, c4, c5⟩ := cs
  cases hk
  refine' rest_S ?k1 ?k2 ?k3 ?k4 ?k5 ?kD ?kA ?kF ?kK ?k6 ?k7 ?k8 ?kV ?kP ?kG ?kB ?_ ?c2 ?c3 ?c4 ?c5
  (case kA => exact rfl); (case kF => exact rfl); (case kK => exact rfl); (case k1 => k_asm); (case k2 => k_asm); (case k3 => k_asm); (case k4 => k_asm); (case k5 => k_asm); (case kD => assumption); (case k6 => k_is); (case k7 => k_is); (case k8 => k_room); (case kV => kl_lit); (case kP => exact rfl); (case kG => exact fun _ => rfl); (case kB => exact fun _ => locs rfl); (case c5 => decide); (case c2 => exact rfl); (case c3 => exact rfl); (case c4 => exact rfl)
  intro Dv g' L' h' l1 FG' F' N' B' X' T' D'
  dsimp only
  w_strict k_steps
  refine own_star (x := sf) (C := 189) (ox := instObj 189 dx) (od := some (dictOf [⟨h1, .str (Str.ofString "qval") t1, qVal tq q⟩, ⟨h2, .str (Str.ofString "test_func") t2, .ref 100⟩, ⟨h3, .str (Str.ofString "external") t3, .bool true⟩] nd)) rfl ?_ (by rfl)
  w_strict k_steps
  · k_inst
  refine wpAny_call ?_
  refine' kco_code ?k1 ?k2 ?k3 ?k4 ?k5 ?k6 ?_
  (case k1 => k_in); (case k2 => k_inst); (case k3 => rfl); (case k4 => k_is); (case k5 => k_is); (case k6 => k_is)
  dsimp only
  rename Fr g' L' _ _ => FL
  rename News g' L' _ _ => NL
  refine' (call_code _ x y t u sf dx h1 h2 h3 t1 t2 t3 tq q nd (.tail _ hsf) (.tail _ hdx) hx hy hl hl2) _ _ _ _ _ _ _ _ _ _ _ _ _ _ _ _ _ B' FL X' NL T' XB TB D' ?kk ?hd ?hu ?_
  (case kk => exact rfl); (case hd => ktr_room); (case hu => ktr_units)
  intro t8 h8 tk8 g9 kT kB kF kX kN kP kD
  clear FL NL B' X' T' D' FG'
  try dsimp only
  w_strict k_steps
  try dsimp only
  rename Fr g9 L' _ _ => F5
  rename News g9 L' _ _ => N5
  refine lvS_ret kT F5 N5 XB TB D (fun p hp => .tail _ hp) fun h₀' yT yB yF yX yN yP yD => ?_
  exact hret _ _ _ h₀' yT yB yF yX yN yP yD
end Mine
end
-- K3
theorem Mine.off_K3 : True := by
  w_top off
  trivial
section
open PySem PySem.W PySem.Spec PySem.Calls PyProof.Rows PyProof.V
set_option maxRecDepth 100000
set_option maxHeartbeats 8000000
namespace Mine
theorem seqs_str {news : List (Addr × Obj)} (x : Str) (t : Tok) : SeqIn news (.str x t) (signs x) := .str x t
local macro_rules | `(tactic| k_room) => `(tactic| ktr_room)
local macro_rules | `(tactic| k_units) => `(tactic| ktr_units)
local macro_rules | `(tactic| k_mem) => `(tactic| assumption)
local macro_rules | `(tactic| walk_at "getAttr ref") => `(tactic| (k_here; k_dflt (refine' get_sm ?k1 ?k2 ?k3 ?k4 ?k5 ?k6 ?k7 ?k8 ?k9 ?k10 ?k11 ?k12 ?_; (case k3 => k_inst); (case k1 => k_asm); (case k2 => k_asm); (case k4 => k_is); (case k5 => k_is); (case k6 => k_is); (case k7 => k_is); (case k8 => k_is); (case k9 => decide +kernel); (case k10 => k_get); (case k11 => k_is); (case k12 => k_handed); k_whole)))
local macro_rules | `(tactic| k_steps) => `(tactic| repeat' ((fail_if_success (with_reducible show wpAny _ _ (callWith _ (Value.ref _) _ (backTo _ (starEach [Expr.Starred (Expr.Name (Str.ofString "sequences") _) _] _)) []) _ _ _)); (fail_if_success (with_reducible show wpAny _ _ (call (Value.ref _) _) _ _ _)); first | (k_unfold; (try dsimp only)) | (k_end; wrow_close) | walk1 | (dsimp only; walk1) | (leave1; walk_say "STEP leave1"; try dsimp only) | fail "no step"))
theorem similarity_walk {prog : Program} {w : World} {p : Program} {loose : List Str} {mean : ExcName → Option Value} {mg mb : Str → Option Value} (news : List (Addr × Obj)) (x y : Str) (t u : Tok) (sf dx : Addr) (h1 h2 h3 : Int) (t1 t2 t3 tq : Tok) (q : Qv) (nd : Nat)
   (hsf : (sf, instObj 189 dx) ∈ news) (hdx : (dx, dictOf [⟨h1, .str (Str.ofString "qval") t1, qVal tq q⟩, ⟨h2, .str (Str.ofString "test_func") t2, .ref 100⟩, ⟨h3, .str (Str.ofString "external") t3, .bool true⟩] nd) ∈ news)
   (hx : ascii x = true) (hy : ascii y = true) (hl : x.length ≤ 6) (hl2 : y.length ≤ 6) :
   ClaimS 28 prog w (hd.heap_39 w.params) p loose mean mg mb 72 news [.ref sf, .str x t, .str y u] (fun t => .int (((max x.length y.length : Nat) : Int) - levD (itemsOf x q) (itemsOf y q)) t) := by
  intro dp un gd cn cs a ccd cl outer A₀ base h₀ L m s Q E B F X N T XB TB D hk hdp hu hret
  obtain ⟨ck, c2, c3, c4, c5⟩ := cs
  cases hk
  refine wpAny_call ?_
  refine' rest_S ?k1 ?k2 ?k3 ?k4 ?k5 ?kD ?kA ?kF ?kK ?k6 ?k7 ?k8 ?kV ?kP ?kG ?kB ?_ ?c2 ?c3 ?c4 ?c5
  (case kA => exact rfl); (case kF => exact rfl); (case kK => exact rfl); (case k1 => k_asm); (case k2 => k_asm); (case k3 => k_asm); (case k4 => k_asm); (case k5 => k_asm); (case kD => assumption); (case k6 => k_is); (case k7 => k_is); (case k8 => k_room); (case kV => kl_lit); (case kP => exact rfl); (case kG => exact fun _ => rfl); (case kB => exact fun _ => locs rfl); (case c5 => decide); (case c2 => exact rfl); (case c3 => exact rfl); (case c4 => exact rfl)
  intro Dv g' L' h' l1 FG' F' N' B' X' T' D'
  dsimp only
  w_strict k_steps
  refine starCall ?_ (by rfl)
  w_strict k_steps
  refine callWith_S (by k_asm) (by k_is) ?_ (by rfl)
  w_strict k_steps
  rename Fr g' L' _ _ => FL
  rename News g' L' _ _ => NL
  refine' (maximum_walk _ _ _ _ _ (seqs_str x t) (seqs_str y u) (by rw [signs_length]; exact hl) (by rw [signs_length]; exact hl2)) _ _ _ _ _ _ _ _ _ _ _ _ _ _ _ _ _ B' FL X' NL T' ?kk ?hd ?hu ?_
  (case kk => exact rfl); (case hd => ktr_room); (case hu => ktr_units)
  intro t8 h8 tk8 F8 N8
  clear FL NL
  rw [signs_length, signs_length]
  w_strict k_steps
  refine starCall ?_ (by rfl)
  w_strict k_steps
  refine meth_star (K := hd.heap_39 w.params) (g := 65) (self := .ref sf) (by k_is) ?_ (by rfl)
  w_strict k_steps
  refine' call_meth ?k1 ?k2 ?_
  (case k1 => k_asm); (case k2 => exact .head _)
  rename Fr g' L' _ _ => FL
  rename News g' L' _ _ => NL
  refine' (distance_code _ x y t u sf dx h1 h2 h3 t1 t2 t3 tq q nd (.tail _ (.tail _ hsf)) (.tail _ (.tail _ hdx)) hx hy hl hl2) _ _ _ _ _ _ _ _ _ _ _ _ _ _ _ _ _ B' FL X' NL T' XB TB D' ?kk ?hd ?hu ?_
  (case kk => exact rfl); (case hd => ktr_room); (case hu => ktr_units)
  intro t8 h8 tk8 g9 kT kB kF kX kN kP kD
  clear FL NL B' X' T' D' FG'
  try dsimp only
  w_strict k_steps
  try dsimp only
  rename Fr g9 L' _ _ => F5
  rename News g9 L' _ _ => N5
  refine lvS_ret kT F5 N5 XB TB D (fun p hp => .tail _ (.tail _ hp)) fun h₀' yT yB yF yX yN yP yD => ?_
  exact hret _ _ _ h₀' yT yB yF yX yN yP yD
end Mine
end
local macro_rules | `(tactic| walk_at "blank 24") => `(tactic| fail "blank")
local macro_rules | `(tactic| walk_at "blank 25") => `(tactic| fail "blank")
-- K4
theorem Mine.off_K4 : True := by
  w_top off
  trivial
section
open PySem PySem.W PySem.Spec PySem.Calls PyProof.Rows PyProof.V
set_option maxRecDepth 100000
set_option maxHeartbeats 8000000
namespace Mine
/-- the share of the distance in the maximum -/
def partV (far : Int) (most : Nat) (t : Tok) : Value := if most = 0 then .int 0 t else .float (Float64.ofFrac false far.natAbs most) t
theorem partV_eq (n m : Nat) (hz : ¬ m = 0) (t : Tok) : partV (n : Int) m t = .float (Float64.ofFrac (decide ((n : Int) < 0) != decide ((m : Int) < 0)) (n : Int).natAbs (m : Int).natAbs) t := by
  have h1 : decide ((n : Int) < 0) = false := decide_eq_false (by omega)
  have h2 : decide ((m : Int) < 0) = false := decide_eq_false (by omega)
  unfold partV
  rw [if_neg hz, h1, h2]
  rfl
theorem part_ok : ∀ n m : Nat, n ≤ 6 → m ≤ 6 → m ≠ 0 → ¬ Float64.isInf (Float64.ofFrac (decide ((n : Int) < 0) != decide ((m : Int) < 0)) (n : Int).natAbs (m : Int).natAbs) = true := by
  have h : ∀ n m : Fin 7, (m : Nat) ≠ 0 → ¬ Float64.isInf (Float64.ofFrac (decide (((n : Nat) : Int) < 0) != decide (((m : Nat) : Int) < 0)) ((n : Nat) : Int).natAbs ((m : Nat) : Int).natAbs) = true := by decide +kernel
  intro n m hn hm h0
  exact h ⟨n, by omega⟩ ⟨m, by omega⟩ h0
local macro_rules | `(tactic| k_room) => `(tactic| ktr_room)
local macro_rules | `(tactic| k_units) => `(tactic| ktr_units)
local macro_rules | `(tactic| k_mem) => `(tactic| assumption)
local macro_rules | `(tactic| walk_at "getAttr ref") => `(tactic| (k_here; k_dflt (refine' get_sm ?k1 ?k2 ?k3 ?k4 ?k5 ?k6 ?k7 ?k8 ?k9 ?k10 ?k11 ?k12 ?_; (case k3 => k_inst); (case k1 => k_asm); (case k2 => k_asm); (case k4 => k_is); (case k5 => k_is); (case k6 => k_is); (case k7 => k_is); (case k8 => k_is); (case k9 => decide +kernel); (case k10 => k_get); (case k11 => k_is); (case k12 => k_handed); k_whole)))
local macro_rules | `(tactic| k_steps) => `(tactic| repeat' ((fail_if_success (with_reducible show wpAny _ _ (callWith _ (Value.ref _) _ (backTo _ (starEach [Expr.Starred (Expr.Name (Str.ofString "sequences") _) _] _)) []) _ _ _)); (fail_if_success (with_reducible show wpAny _ _ (call (Value.ref _) _) _ _ _)); (fail_if_success (with_reducible show wpAny _ _ (binaryOp Operator.Div _ _) _ _ _)); first | (k_unfold; (try dsimp only)) | (k_end; wrow_close) | walk1 | (dsimp only; walk1) | (leave1; walk_say "STEP leave1"; try dsimp only) | fail "no step"))
theorem nd_code {prog : Program} {w : World} {p : Program} {loose : List Str} {mean : ExcName → Option Value} {mg mb : Str → Option Value} (news : List (Addr × Obj)) (x y : Str) (t u : Tok) (sf dx : Addr) (h1 h2 h3 : Int) (t1 t2 t3 tq : Tok) (q : Qv) (nd : Nat)
   (hsf : (sf, instObj 189 dx) ∈ news) (hdx : (dx, dictOf [⟨h1, .str (Str.ofString "qval") t1, qVal tq q⟩, ⟨h2, .str (Str.ofString "test_func") t2, .ref 100⟩, ⟨h3, .str (Str.ofString "external") t3, .bool true⟩] nd) ∈ news)
   (hx : ascii x = true) (hy : ascii y = true) (hl : x.length ≤ 6) (hl2 : y.length ≤ 6) :
   ClaimC 28 prog w (hd.heap_39 w.params) p loose mean mg mb 79 news [.ref sf, .str x t, .str y u] (partV (levD (itemsOf x q) (itemsOf y q)) (max x.length y.length)) := by
  intro dp un gd cn cs a ccd cl outer A₀ base h₀ L m s Q E B F X N T XB TB D hk hdp hu hret
  obtain ⟨ck, c2, c3, c4, c5⟩ := cs
  cases hk
  refine' rest_S ?k1 ?k2 ?k3 ?k4 ?k5 ?kD ?kA ?kF ?kK ?k6 ?k7 ?k8 ?kV ?kP ?kG ?kB ?_ ?c2 ?c3 ?c4 ?c5
  (case kA => exact rfl); (case kF => exact rfl); (case kK => exact rfl); (case k1 => k_asm); (case k2 => k_asm); (case k3 => k_asm); (case k4 => k_asm); (case k5 => k_asm); (case kD => assumption); (case k6 => k_is); (case k7 => k_is); (case k8 => k_room); (case kV => kl_lit); (case kP => exact rfl); (case kG => exact fun _ => rfl); (case kB => exact fun _ => locs rfl); (case c5 => decide); (case c2 => exact rfl); (case c3 => exact rfl); (case c4 => exact rfl)
  intro Dv g' L' h' l1 FG' F' N' B' X' T' D'
  dsimp only
  w_strict k_steps
  refine starCall ?_ (by rfl)
  w_strict k_steps
  refine callWith_S (by k_asm) (by k_is) ?_ (by rfl)
  w_strict k_steps
  rename Fr g' L' _ _ => FL
  rename News g' L' _ _ => NL
  refine' (maximum_walk _ _ _ _ _ (seqs_str x t) (seqs_str y u) (by rw [signs_length]; exact hl) (by rw [signs_length]; exact hl2)) _ _ _ _ _ _ _ _ _ _ _ _ _ _ _ _ _ B' FL X' NL T' ?kk ?hd ?hu ?_
  (case kk => exact rfl); (case hd => ktr_room); (case hu => ktr_units)
  intro t8 h8 tk8 F8 N8
  clear FL NL
  rw [signs_length, signs_length]
  have hmx : max x.length y.length ≤ 6 := by omega
  generalize hme : max x.length y.length = mx at *
  by_cases hz : mx = 0
  · subst hz
    w_strict k_steps
    try dsimp only
    rename Fr g' L' _ _ => F5
    rename News g' L' _ _ => N5
    refine lvS_ret KtsTurn.refl F5 N5 XB TB D (fun p hp => .tail _ hp) fun h₀' yT yB yF yX yN yP yD => ?_
    exact val_eq (hret _ _ _ h₀' yT yB yF yX yN yP yD) (by show partV _ 0 _ = _; rfl)
  · w_strict k_steps
    · exact absurd (show (mx : Int) = 0 by assumption) (by omega)
    refine starCall ?_ (by rfl)
    w_strict k_steps
    refine meth_star (K := hd.heap_39 w.params) (g := 65) (self := .ref sf) (by k_is) ?_ (by rfl)
    w_strict k_steps
    refine' call_meth ?k1 ?k2 ?_
    (case k1 => k_asm); (case k2 => exact .head _)
    rename Fr g' L' _ _ => FL
    rename News g' L' _ _ => NL
    refine' (distance_code _ x y t u sf dx h1 h2 h3 t1 t2 t3 tq q nd (.tail _ (.tail _ hsf)) (.tail _ (.tail _ hdx)) hx hy hl hl2) _ _ _ _ _ _ _ _ _ _ _ _ _ _ _ _ _ B' FL X' NL T' XB TB D' ?kk ?hd ?hu ?_
    (case kk => exact rfl); (case hd => ktr_room); (case hu => ktr_units)
    intro t8 h8 tk8 g9 kT kB kF kX kN kP kD
    clear FL NL B' X' T' D' FG'
    try dsimp only
    have hv0 := levD_nonneg (itemsOf x q) (itemsOf y q)
    have hv1 := levD_le (itemsOf x q) (itemsOf y q)
    have hv2 := items_len hl q
    have hv3 := items_len hl2 q
    obtain ⟨n, hn⟩ : ∃ n : Nat, levD (itemsOf x q) (itemsOf y q) = (n : Int) := ⟨_, (Int.toNat_of_nonneg hv0).symm⟩
    have hn6 : n ≤ 6 := by omega
    rw [hn] at hret ⊢
    w_strict k_steps
    dsimp only
    refine PySem.AutoIntOps.truediv_2 (by rw [beq_iff_eq]; omega) (part_ok n mx hn6 hmx hz) ?_
    dsimp only [Made.post]
    rename Fr g9 L' _ _ => F5
    rename News g9 L' _ _ => N5
    refine lvS_ret kT (F5) N5 XB TB D (fun p hp => .tail _ (.tail _ hp)) fun h₀' yT yB yF yX yN yP yD => ?_
    exact val_eq (hret _ _ _ h₀' yT yB yF yX yN yP yD) (partV_eq n mx hz _)
end Mine
end
local macro_rules | `(tactic| walk_at "blank 26") => `(tactic| fail "blank")
local macro_rules | `(tactic| walk_at "blank 27") => `(tactic| fail "blank")
-- K5
theorem Mine.off_K5 : True := by
  w_top off
  trivial
section
open PySem PySem.W PySem.Spec PySem.Calls PyProof.Rows PyProof.V
set_option maxRecDepth 100000
set_option maxHeartbeats 8000000
namespace Mine
/-- one less the share -/
def restV (far : Int) (most : Nat) (t : Tok) : Value := if most = 0 then .int 1 t else .float (Float64.sub (Float64.ofInt 1) (Float64.ofFrac false far.natAbs most)) t
local macro_rules | `(tactic| k_room) => `(tactic| ktr_room)
local macro_rules | `(tactic| k_units) => `(tactic| ktr_units)
local macro_rules | `(tactic| k_mem) => `(tactic| assumption)
local macro_rules | `(tactic| walk_at "getAttr ref") => `(tactic| (k_here; k_dflt (refine' get_sm ?k1 ?k2 ?k3 ?k4 ?k5 ?k6 ?k7 ?k8 ?k9 ?k10 ?k11 ?k12 ?_; (case k3 => k_inst); (case k1 => k_asm); (case k2 => k_asm); (case k4 => k_is); (case k5 => k_is); (case k6 => k_is); (case k7 => k_is); (case k8 => k_is); (case k9 => decide +kernel); (case k10 => k_get); (case k11 => k_is); (case k12 => k_handed); k_whole)))
local macro_rules | `(tactic| k_steps) => `(tactic| repeat' ((fail_if_success (with_reducible show wpAny _ _ (callWith _ (Value.ref _) _ (backTo _ (starEach [Expr.Starred (Expr.Name (Str.ofString "sequences") _) _] _)) []) _ _ _)); (fail_if_success (with_reducible show wpAny _ _ (call (Value.ref _) _) _ _ _)); (fail_if_success (with_reducible show wpAny _ _ (binaryOp Operator.Div _ _) _ _ _)); first | (k_unfold; (try dsimp only)) | (k_end; wrow_close) | walk1 | (dsimp only; walk1) | (leave1; walk_say "STEP leave1"; try dsimp only) | fail "no step"))
theorem ns_walk {prog : Program} {w : World} {p : Program} {loose : List Str} {mean : ExcName → Option Value} {mg mb : Str → Option Value} (news : List (Addr × Obj)) (x y : Str) (t u : Tok) (sf dx : Addr) (h1 h2 h3 : Int) (t1 t2 t3 tq : Tok) (q : Qv) (nd : Nat)
   (hsf : (sf, instObj 189 dx) ∈ news) (hdx : (dx, dictOf [⟨h1, .str (Str.ofString "qval") t1, qVal tq q⟩, ⟨h2, .str (Str.ofString "test_func") t2, .ref 100⟩, ⟨h3, .str (Str.ofString "external") t3, .bool true⟩] nd) ∈ news)
   (hx : ascii x = true) (hy : ascii y = true) (hl : x.length ≤ 6) (hl2 : y.length ≤ 6) :
   ClaimS 32 prog w (hd.heap_39 w.params) p loose mean mg mb 86 news [.ref sf, .str x t, .str y u] (restV (levD (itemsOf x q) (itemsOf y q)) (max x.length y.length)) := by
  intro dp un gd cn cs a ccd cl outer A₀ base h₀ L m s Q E B F X N T XB TB D hk hdp hu hret
  obtain ⟨ck, c2, c3, c4, c5⟩ := cs
  cases hk
  refine wpAny_call ?_
  refine' rest_S ?k1 ?k2 ?k3 ?k4 ?k5 ?kD ?kA ?kF ?kK ?k6 ?k7 ?k8 ?kV ?kP ?kG ?kB ?_ ?c2 ?c3 ?c4 ?c5
  (case kA => exact rfl); (case kF => exact rfl); (case kK => exact rfl); (case k1 => k_asm); (case k2 => k_asm); (case k3 => k_asm); (case k4 => k_asm); (case k5 => k_asm); (case kD => assumption); (case k6 => k_is); (case k7 => k_is); (case k8 => k_room); (case kV => kl_lit); (case kP => exact rfl); (case kG => exact fun _ => rfl); (case kB => exact fun _ => locs rfl); (case c5 => decide); (case c2 => exact rfl); (case c3 => exact rfl); (case c4 => exact rfl)
  intro Dv g' L' h' l1 FG' F' N' B' X' T' D'
  dsimp only
  w_strict k_steps
  refine starCall ?_ (by rfl)
  w_strict k_steps
  refine meth_star (K := hd.heap_39 w.params) (g := 79) (self := .ref sf) (by k_is) ?_ (by rfl)
  w_strict k_steps
  refine' call_meth ?k1 ?k2 ?_
  (case k1 => k_asm); (case k2 => exact .head _)
  rename Fr g' L' _ _ => FL
  rename News g' L' _ _ => NL
  refine' (nd_code _ x y t u sf dx h1 h2 h3 t1 t2 t3 tq q nd (.tail _ (.tail _ hsf)) (.tail _ (.tail _ hdx)) hx hy hl hl2) _ _ _ _ _ _ _ _ _ _ _ _ _ _ _ _ _ B' FL X' NL T' XB TB D' ?kk ?hd ?hu ?_
  (case kk => exact rfl); (case hd => ktr_room); (case hu => ktr_units)
  intro t8 h8 tk8 g9 kT kB kF kX kN kP kD
  clear FL NL B' X' T' D' FG'
  by_cases hz : max x.length y.length = 0
  · have ep : ∀ t, partV (levD (itemsOf x q) (itemsOf y q)) (max x.length y.length) t = .int 0 t := fun t => if_pos hz
    rw [ep]
    w_strict k_steps
    try dsimp only
    rename Fr g9 L' _ _ => F5
    rename News g9 L' _ _ => N5
    refine lvS_ret kT F5 N5 XB TB D (fun p hp => .tail _ (.tail _ hp)) fun h₀' yT yB yF yX yN yP yD => ?_
    exact val_eq (hret _ _ _ h₀' yT yB yF yX yN yP yD) (if_pos hz)
  · have ep : ∀ t, partV (levD (itemsOf x q) (itemsOf y q)) (max x.length y.length) t = .float (Float64.ofFrac false (levD (itemsOf x q) (itemsOf y q)).natAbs (max x.length y.length)) t := fun t => if_neg hz
    rw [ep]
    w_strict k_steps
    try dsimp only
    rename Fr g9 L' _ _ => F5
    rename News g9 L' _ _ => N5
    refine lvS_ret kT F5 N5 XB TB D (fun p hp => .tail _ (.tail _ hp)) fun h₀' yT yB yF yX yN yP yD => ?_
    exact val_eq (hret _ _ _ h₀' yT yB yF yX yN yP yD) (if_neg hz)
end Mine
end
local macro_rules | `(tactic| walk_at "blank 28") => `(tactic| fail "blank")
local macro_rules | `(tactic| walk_at "blank 29") => `(tactic| fail "blank")
-- NR
theorem Mine.off_NR : True := by
  w_top off
  trivial
section
open PySem PySem.W PySem.Spec PySem.Calls PyProof.Rows PyProof.V
set_option maxRecDepth 100000
set_option maxHeartbeats 8000000
namespace Mine
local macro_rules | `(tactic| k_room) => `(tactic| ktr_room)
local macro_rules | `(tactic| k_units) => `(tactic| ktr_units)
local macro_rules | `(tactic| k_mem) => `(tactic| assumption)
/-- what _law_near says -/
def nearB (f : UInt64) (a b : Nat) : Bool := PySem.Float64.cmpInt (PySem.Float64.mul (PySem.Float64.abs (PySem.Float64.sub (PySem.Float64.mul f (PySem.Float64.ofInt (a : Int))) (PySem.Float64.ofInt (b : Int)))) (PySem.Float64.ofInt 1000000)) 1 == some Ordering.lt
theorem near_part : ∀ n m : Nat, n ≤ m → m ≤ 6 → m ≠ 0 → nearB (PySem.Float64.ofFrac false n m) m n = true := by
  have h : ∀ m n : Fin 7, n ≤ m → (m : Nat) ≠ 0 → nearB (PySem.Float64.ofFrac false n m) m n = true := by decide +kernel
  intro n m hn hm h0
  exact h ⟨m, by omega⟩ ⟨n, by omega⟩ hn h0
theorem near_rest : ∀ n m : Nat, n ≤ m → m ≤ 6 → m ≠ 0 → nearB (PySem.Float64.sub (PySem.Float64.ofInt 1) (PySem.Float64.ofFrac false n m)) m (m - n) = true := by
  have h : ∀ m n : Fin 7, n ≤ m → (m : Nat) ≠ 0 → nearB (PySem.Float64.sub (PySem.Float64.ofInt 1) (PySem.Float64.ofFrac false n m)) m ((m : Nat) - (n : Nat)) = true := by decide +kernel
  intro n m hn hm h0
  exact h ⟨m, by omega⟩ ⟨n, by omega⟩ hn h0
theorem near_walk {prog : Program} {w : World} {p : Program} {loose : List Str} {mean : ExcName → Option Value} {mg mb : Str → Option Value} (news : List (Addr × Obj)) (f : UInt64) (a b : Nat) (t1 t2 t3 : Tok) (ha : a ≤ 6) (hb : b ≤ 6) :
   Claim 6 prog w (hd.heap_39 w.params) p loose mean mg mb 203 news [.float f t1, .int (a : Int) t2, .int (b : Int) t3] (fun _ => .bool (nearB f a b)) := by
  intro dp un gd cn cs ad ccd cl outer A₀ base h₀ L m s Q E B F X N T hk hdp hu hret
  obtain ⟨ck, c2, c3, c4, c5⟩ := cs
  cases hk
  w_strict k_steps
  exact cb_retB hret rfl (by k_asm) (cb_drop (by k_asm) fun p hp => hp)
end Mine
end
-- D2
theorem Mine.off_D2 : True := by
  w_top off
  trivial
section
open PySem PySem.W PySem.Spec PySem.Calls PyProof.Rows PyProof.V
namespace Mine
/-- a road through the table: down, right, or both at once -/
inductive Road (e : Nat → Nat → Bool) : Nat → Nat → Nat → Nat → Int → Prop
  | nil (r c : Nat) : Road e r c r c 0
  | down {a b r c : Nat} {k : Int} : Road e a b r c k → Road e a b (r + 1) c (k + 1)
  | right {a b r c : Nat} {k : Int} : Road e a b r c k → Road e a b r (c + 1) (k + 1)
  | diag {a b r c : Nat} {k : Int} : Road e a b r c k → Road e a b (r + 1) (c + 1) (k + (if e r c then 0 else 1))
theorem Road.cast {e : Nat → Nat → Bool} {a b r c : Nat} {k k' : Int} (h : Road e a b r c k) (q : k = k') : Road e a b r c k' := q ▸ h
theorem Road.trans {e : Nat → Nat → Bool} {a b r c r' c' : Nat} {k k' : Int} (h : Road e a b r c k) (h' : Road e r c r' c' k') : Road e a b r' c' (k + k') := by
  induction h' with
  | nil => exact h.cast (by omega)
  | down _ ih => exact (Road.down ih).cast (by omega)
  | right _ ih => exact (Road.right ih).cast (by omega)
  | diag _ ih => exact (Road.diag ih).cast (by omega)
theorem DD_up (e : Nat → Nat → Bool) (r c : Nat) : DD e (r + 1) c ≤ DD e r c + 1 := by
  cases c with
  | zero => rw [DD_left, DD_left]; omega
  | succ c => rw [DD_step]; omega
theorem DD_right (e : Nat → Nat → Bool) (r c : Nat) : DD e r (c + 1) ≤ DD e r c + 1 := by
  cases r with
  | zero => rw [DD_zero, DD_zero]; omega
  | succ r => rw [DD_step]; omega
theorem DD_least {e : Nat → Nat → Bool} {a b r c : Nat} {k : Int} (h : Road e a b r c k) (ha : a = 0) (hb : b = 0) : DD e r c ≤ k := by
  induction h with
  | nil => rw [ha, hb, DD_zero]; simp
  | @down r c k _ ih => have := ih; have := DD_up e r c; omega
  | @right r c k _ ih => have := ih; have := DD_right e r c; omega
  | diag _ ih => have := ih; rw [DD_step]; omega
theorem DD_road (e : Nat → Nat → Bool) : ∀ r c, Road e 0 0 r c (DD e r c) := by
  intro r
  induction r with
  | zero =>
    intro c
    induction c with
    | zero => exact (Road.nil 0 0).cast (by rw [DD_zero]; rfl)
    | succ c ih => exact (Road.right ih).cast (by rw [DD_zero, DD_zero]; omega)
  | succ r ih =>
    intro c
    induction c with
    | zero => exact (Road.down (ih 0)).cast (by rw [DD_left, DD_left]; omega)
    | succ c ihc =>
      rw [DD_step]
      generalize hx : DD e r c + (if e r c then 0 else 1) = x
      rcases Int.le_total x (DD e r (c + 1) + 1) with h1 | h1
      · rcases Int.le_total x (DD e (r + 1) c + 1) with h2 | h2
        · exact (Road.diag (ih c)).cast (by omega)
        · exact (Road.right ihc).cast (by omega)
      · rcases Int.le_total (DD e r (c + 1) + 1) (DD e (r + 1) c + 1) with h2 | h2
        · exact (Road.down (ih (c + 1))).cast (by omega)
        · exact (Road.right ihc).cast (by omega)
theorem road_rev {e e' : Nat → Nat → Bool} {n m : Nat} (he : ∀ i j, i < n → j < m → e' i j = e (n - 1 - i) (m - 1 - j)) {a b r c : Nat} {k : Int} (h : Road e a b r c k) (ha : a = 0) (hb : b = 0) (hr : r ≤ n) (hc : c ≤ m) :
    Road e' (n - r) (m - c) n m k := by
  induction h with
  | nil => subst ha; subst hb; exact .nil n m
  | @down r c k _ ih =>
    have h1 : Road e' (n - (r + 1)) (m - c) (n - r) (m - c) (0 + 1) := by
      have := Road.down (Road.nil (e := e') (n - (r + 1)) (m - c))
      rwa [show n - (r + 1) + 1 = n - r by omega] at this
    exact (h1.trans (ih (by omega) hc)).cast (by omega)
  | @right r c k _ ih =>
    have h1 : Road e' (n - r) (m - (c + 1)) (n - r) (m - c) (0 + 1) := by
      have := Road.right (Road.nil (e := e') (n - r) (m - (c + 1)))
      rwa [show m - (c + 1) + 1 = m - c by omega] at this
    exact (h1.trans (ih hr (by omega))).cast (by omega)
  | @diag r c k _ ih =>
    have h1 : Road e' (n - (r + 1)) (m - (c + 1)) (n - r) (m - c) (0 + (if e' (n - (r + 1)) (m - (c + 1)) then 0 else 1)) := by
      have := Road.diag (Road.nil (e := e') (n - (r + 1)) (m - (c + 1)))
      rwa [show n - (r + 1) + 1 = n - r by omega, show m - (c + 1) + 1 = m - c by omega] at this
    have h2 : e' (n - (r + 1)) (m - (c + 1)) = e r c := by
      rw [he _ _ (by omega) (by omega), show n - 1 - (n - (r + 1)) = r by omega, show m - 1 - (m - (c + 1)) = c by omega]
    rw [h2] at h1
    exact (h1.trans (ih (by omega) (by omega))).cast (by omega)
theorem DD_rev_le {e e' : Nat → Nat → Bool} {n m : Nat} (he : ∀ i j, i < n → j < m → e' i j = e (n - 1 - i) (m - 1 - j)) : DD e' n m ≤ DD e n m := by
  have h := road_rev he (DD_road e n m) rfl rfl (Nat.le_refl _) (Nat.le_refl _)
  rw [Nat.sub_self, Nat.sub_self] at h
  exact DD_least h rfl rfl
/-- the table read from the back holds the same -/
theorem DD_rev {e e' : Nat → Nat → Bool} {n m : Nat} (he : ∀ i j, i < n → j < m → e' i j = e (n - 1 - i) (m - 1 - j)) : DD e' n m = DD e n m := by
  refine Int.le_antisymm (DD_rev_le he) (DD_rev_le fun i j hi hj => ?_)
  rw [he _ _ (by omega) (by omega), show n - 1 - (n - 1 - i) = i by omega, show m - 1 - (m - 1 - j) = j by omega]
open Classical in
theorem far_lev (ds es : List Dat) : DD (fun r c => decide (ds.getD (ds.length - 1 - r) .none = es.getD (es.length - 1 - c) .none)) ds.length es.length = levD ds es :=
  DD_rev fun _ _ _ _ => rfl
end Mine
end
-- LP
theorem Mine.off_LP : True := by
  w_top off
  trivial
section
open PySem PySem.W PySem.Spec PySem.Calls PyProof.Rows PyProof.V
set_option maxRecDepth 100000
namespace Mine
section
variable {prog : Program} {w : World} {A : Around} {E : Value → Shared → Prop} {s : Shared} {env : Env} {h₀ : Heap} {x : Str} {body : List Stmt} {Q : Flow → Shared → Prop}
theorem loop_fp {I : Addr} {fp wr : List Addr} {n : Nat} {P : Nat → Value → Prop} {St : Nat → Heap → Prop} {m₀ : Str → Option Value} {news : List (Addr × Obj)} (J : Nat → (Str → Option Value) → List (Addr × Obj) → Prop)
    (W : Walks prog w A I fp wr n P St) (hwf : ∀ b ∈ wr, b ∈ fp) (hob : ∀ i h, St i h → ∀ b ∈ fp, ∃ o, h.get? b = some o) (hLf : env.locals ∉ fp) (hfp : ∀ b ∈ fp, h₀.get? b = none) (hnf : ∀ p ∈ news, p.1 ∉ fp) (hst : St 0 s.heap)
    (F : Fr h₀ env.locals s.heap m₀) (N : News h₀ env.locals s.heap news) (hj : J 0 m₀ news)
    (turn : ∀ i v m₁ nx h tk own, i < n → P i v → OwnOff own (nx.map (·.1)) → J i m₁ nx → Fr h₀ env.locals h (fun y => if y = x then some v else m₁ y) → News h₀ env.locals h (nx ++ own) →
      wpAny (model prog w) A (execs body env) (InvPostG h₀ env.locals (J (i + 1)) own { s with heap := h, toks := tk } Q) E { s with heap := h, toks := tk })
    (done : ∀ m₁ nx h tk, J n m₁ nx → Fr h₀ env.locals h m₁ → News h₀ env.locals h nx → Q .next { s with heap := h, toks := tk }) :
    LoopAtV prog w A h₀ env x body Q E (.ref I) s := by
  refine ⟨I, fp, wr, n, P, St, m₀, news, fun i m nx => J i m nx ∧ ∀ p ∈ nx, p.1 ∉ fp, rfl, W, hLf, fun b hb => hfp b (hwf b hb), fun p hp h => hnf p hp (hwf _ h), hst, F, N, ⟨hj, hnf⟩, ?_, ?_⟩
  · rintro i v m₁ news₁ s₁ own ⟨hh', tk', rfl⟩ hin hP ⟨hJ, hJf⟩ hoff hown _ hmem hst' F₁ N₁
    have hsep : OwnOff own (news₁.map (·.1)) := by
      intro p hp b hb e
      obtain ⟨q, hq, rfl⟩ := List.mem_map.mp hb
      exact hJf q hq (e ▸ hown p hp)
    have N₂ : News h₀ env.locals hh' (news₁ ++ own) := fun p hp => N₁ p ((List.mem_append.mp hp).elim (fun h => List.mem_append.mpr (.inr h)) fun h => List.mem_append.mpr (.inl h))
    refine wpAny_mono (turn i v m₁ news₁ hh' tk' own hin hP hsep hJ F₁ N₂) (fun f s₂ p => ?_) fun _ _ e => e
    have fin : InvEndG h₀ env.locals (J (i + 1)) own { s with heap := hh', toks := tk' } s₂ → LoopStepU h₀ env.locals wr own (fun m nx => J (i + 1) m nx ∧ ∀ p ∈ nx, p.1 ∉ fp) { s with heap := hh', toks := tk' } .next s₂ := by
      rintro ⟨h', tk, m', news', nx, e, F', N', hn, ho, ha, hm⟩
      have key : ∀ p ∈ nx, p.1 ∉ fp := fun p hp hq => by
        obtain ⟨o, hbo⟩ := hob _ _ hst' _ hq
        exact ha _ (hmem _ hq (hfp _ hq) o hbo) p.1 (List.mem_map.mpr ⟨p, hp, rfl⟩) rfl
      exact ⟨rfl, h', tk, m', nx, e, F', fun p hp => N' p ((List.mem_append.mp hp).elim (ho p) (hn p)), fun p hp hq => key p hp (hwf _ hq), hm, key⟩
    cases f with
    | ret v => exact .ret p
    | brk => exact .brk p
    | next => exact .next (fin p)
    | cont => exact .cont (fin p)
  · rintro h' tk m' news' F' N' _ ⟨hJ, _⟩
    exact done m' news' h' tk hJ F' N'
/-- a for over a list of ints that stands apart from the ledger -/
theorem list_loop {l : Addr} {vs : List Value} {ns : List Int} {nd : Nat} {m₀ : Str → Option Value} {news : List (Addr × Obj)} (J : Nat → (Str → Option Value) → List (Addr × Obj) → Prop)
    (hh : A.handled = none) (F : Fr h₀ env.locals s.heap m₀) (N : News h₀ env.locals s.heap ((l, W.listOf vs.toArray nd) :: news)) (hi : IntsAre vs ns) (hne : ∀ p ∈ news, p.1 ≠ l) (hj : J 0 m₀ news)
    (turn : ∀ i n t m₁ nx h tk own, ns[i]? = some n → OwnOff own (nx.map (·.1)) → J i m₁ nx → Fr h₀ env.locals h (fun y => if y = x then some (.int n t) else m₁ y) → News h₀ env.locals h (nx ++ own) →
      wpAny (model prog w) A (execs body env) (InvPostG h₀ env.locals (J (i + 1)) own { s with heap := h, toks := tk } Q) E { s with heap := h, toks := tk })
    (done : ∀ m₁ nx h tk, J ns.length m₁ nx → Fr h₀ env.locals h m₁ → News h₀ env.locals h nx → Q .next { s with heap := h, toks := tk }) :
    wpAny (model prog w) A (pyIter (.ref l)) (fun it s₂ => LoopAtV prog w A h₀ env x body Q E it s₂) E s := by
  have hl := N _ (.head _)
  have hls : s.heap.IsList l vs.toArray := ⟨_, hl.1, rfl, _, rfl⟩
  have hlt : l < s.heap.objs.size := Heap.lt_size hl.1
  refine wpAny_pyIter_list hls ?_
  have W := Walks.list (prog := prog) (w := w) hh s.heap.objs.size l (Nat.ne_of_lt hlt) vs.toArray
  have hlen : vs.toArray.size = ns.length := by simp [hi.length]
  rw [hlen] at W
  refine loop_fp J W (fun b hb => by rw [List.mem_singleton.mp hb]; exact .head _) ?_ ?_ ?_ ?_ ⟨⟨_, Heap.get?_push_size _ rfl, rfl, rfl⟩, hls.at fun o e => Heap.get?_push_of_some _ e⟩ (F.push _) (fun p hp => ⟨Heap.get?_push_of_some _ (N p (.tail _ hp)).1, (N p (.tail _ hp)).2⟩) hj ?_ done
  · rintro i h ⟨⟨o, ho, _⟩, ⟨o', ho', _⟩⟩ b hb
    rcases List.mem_cons.mp hb with rfl | hb
    · exact ⟨o, ho⟩
    · rw [List.mem_singleton.mp hb]; exact ⟨o', ho'⟩
  · intro hm
    rcases List.mem_cons.mp hm with e | hm
    · exact absurd F.ns.lt (e ▸ Nat.lt_irrefl _)
    · exact hl.2.1 (List.mem_singleton.mp hm).symm
  · intro b hb
    rcases List.mem_cons.mp hb with rfl | hb
    · exact next_is_new F
    · rw [List.mem_singleton.mp hb]; exact hl.2.2
  · intro p hp hI
    rcases List.mem_cons.mp hI with e | hI
    · exact absurd (Heap.lt_size (N p (.tail _ hp)).1) (e ▸ Nat.lt_irrefl _)
    · exact hne p hp (List.mem_singleton.mp hI)
  · intro i v m₁ nx h tk own hin hP hoff hJ F₁ N₁
    obtain ⟨n, t, rfl, hn⟩ := hi.at i v (by simpa using hP)
    exact turn i n t m₁ nx h tk own hn hoff hJ F₁ N₁
end
end Mine
end
-- CU
theorem Mine.off_CU : True := by
  w_top off
  trivial
section
open PySem PySem.W PySem.Spec PySem.Calls PyProof.Rows PyProof.V
namespace Mine
/-- a statement's end, told by a mid-condition -/
def Mid (I : Shared → Prop) (f : Flow) (s : Shared) : Prop := f = .next ∧ I s
theorem Mid.mk {I : Shared → Prop} {s : Shared} (h : I s) : Mid I .next s := ⟨rfl, h⟩
theorem execs_cut {M : Model} {A : Around} {Q : Flow → Shared → Prop} {E : Value → Shared → Prop} {s : Shared} {env : Env} {st : Stmt} {rest : List Stmt} (I : Shared → Prop)
    (head : wpAny M A (exec st env) (Mid I) E s) (tail : ∀ s', I s' → wpAny M A (execs rest env) Q E s') : wpAny M A (execs (st :: rest) env) Q E s := by
  rw [execs_cons]
  refine wpAny_bind (wpAny_mono head (fun f s' h => ?_) fun _ _ e => e)
  obtain ⟨rfl, h⟩ := h
  exact tail s' h
end Mine
end
-- LS
theorem Mine.off_LS : True := by
  w_top off
  trivial
section
open PySem PySem.W PySem.Spec PySem.Calls PyProof.Rows PyProof.V
set_option maxRecDepth 100000
namespace Mine
theorem set_at {prog : Program} {w : World} {A : Around} {E : Value → Shared → Prop} {s : Shared} {h₀ : Heap} {L D : Addr} {m : Str → Option Value} {rest : List (Addr × Obj)} {vs vs' : Array Value} {n : Nat} {k : Int} {t : Tok} {v : Value} {Q : Unit → Shared → Prop}
    (F : Fr h₀ L s.heap m) (N : News h₀ L s.heap ((D, listOf vs n) :: rest)) (hne : ∀ p ∈ rest, p.1 ≠ D) (h0 : 0 ≤ k) (hfit : k < 2 ^ 63) (hn : k < vs.size) (e : vs.setIfInBounds k.toNat v = vs')
    (h : ∀ h', Fr h₀ L h' m → News h₀ L h' ((D, listOf vs' n) :: rest) → Q () { s with heap := h' }) :
    wpAny (model prog w) A (setItem (.ref D) (.int k t) v) Q E s := by
  have z := N _ (.head _)
  refine ki_setAt z.1 h0 hfit hn (h _ (F.change (Heap.SameBut.update ..) z.2.1 z.2.2) (fun p hp => ?_))
  rcases List.mem_cons.mp hp with rfl | hp
  · refine ⟨?_, z.2⟩
    have := PySem.IsL.update z.1 (fun a => Array.setIfInBounds a k.toNat v)
    rw [e, if_pos (by rw [← e]; simp)] at this
    exact this
  · exact ⟨(Heap.SameBut.update ..).extBut _ _ (hne p hp) (N p (.tail _ hp)).1, (N p (.tail _ hp)).2⟩
theorem sign_ok {j : Int} (h : j = 0 ∨ j = 1 ∨ j = 2) : ascii (Txt.item (Str.ofString "ab ") j) = true ∧ (Txt.item (Str.ofString "ab ") j).length = 1 := by
  rcases h with rfl | rfl | rfl <;> exact ⟨by decide +kernel, by decide +kernel⟩
theorem mod3 (n : Int) : n.fmod 3 = 0 ∨ n.fmod 3 = 1 ∨ n.fmod 3 = 2 := by
  rw [Int.fmod_eq_emod_of_nonneg _ (by decide)]
  omega
theorem ascii_app {x y : Str} (hx : ascii x = true) (hy : ascii y = true) : ascii (x ++ y) = true := by
  show ascii ⟨x.cps ++ y.cps⟩ = true
  unfold ascii at *
  rw [Array.all_append, hx, hy]
  rfl
theorem grown {x : Str} {n : Int} (hx : ascii x = true) (hl : (x.length : Int) < 6) : ascii (x ++ Txt.item (Str.ofString "ab ") (n.fmod 3)) = true ∧ (x ++ Txt.item (Str.ofString "ab ") (n.fmod 3)).length ≤ 6 := by
  obtain ⟨h1, h2⟩ := sign_ok (mod3 n)
  refine ⟨ascii_app hx h1, ?_⟩
  rw [PyProof.Rows.len_cat, h2]
  omega
end Mine
namespace Mine
theorem row_ok {x : Str} (h : ascii x = true) (q : Qv) : kqdOk 7 (rowD x q) = true := by
  have hw : ((Txt.words x).map Dat.str).all (kqdOk 6) = true := by
    rw [List.all_eq_true]
    intro d hd
    obtain ⟨a, ha, rfl⟩ := List.mem_map.mp hd
    exact ascii_ok (words_ascii h a ha) 6
  have hg : ∀ n, (grams n x).all (kqdOk 6) = true := fun n => by
    rw [List.all_eq_true]
    intro d hd
    obtain ⟨i, _, rfl⟩ := List.mem_map.mp hd
    show (((List.range n).map fun k => Dat.str (sgn x (i + k))).all (kqdOk 5)) = true
    rw [List.all_eq_true]
    intro e he
    obtain ⟨k, _, rfl⟩ := List.mem_map.mp he
    exact ascii_ok (sgn_ascii h _) 5
  cases q with
  | none => exact hw
  | zero => exact hw
  | one => exact ascii_ok h 7
  | two => exact hg 2
  | three => exact hg 3
theorem rows_ok {x y : Str} (hx : ascii x = true) (hy : ascii y = true) (q : Qv) : kqdOk 8 (.list [rowD x q, rowD y q]) = true := by
  show ([rowD x q, rowD y q].all (kqdOk 7)) = true
  simp [row_ok hx, row_ok hy]
/-- two objects that bear one datum are not unlike -/
theorem ne_same {prog : Program} {w : World} {A : Around} {E : Value → Shared → Prop} {s : Shared} {h₀ : Heap} {L : Addr} {news : List (Addr × Obj)} {v v' : Value} {d : Dat} {Q : Value → Shared → Prop} (N : News h₀ L s.heap news) (hv : DatIn news v d) (hv' : DatIn news v' d) (hd : kqdOk 8 d = true) (hu : A.units + 64 < cLine)
    (h : Q (.bool false) s) : wpAny (model prog w) A (compareOp .NotEq v v') Q E s := by
  obtain ⟨as, ra⟩ := kqd_in N 8 hv hd
  obtain ⟨bs, rb⟩ := kqd_in N 8 hv' hd
  have la := kqd_lay 8 d hd
  have eq : PyData.eqv (kqdP d) (kqdP d) = true := (kqd_eqv 8 d d 8 hd hd).mpr rfl
  have sh : SeqAt.shaped (kqdP d) = true := by
    unfold SeqAt.shaped; rw [la.1, Bool.true_and]; exact decide_eq_true (Nat.le_trans la.2 (by decide))
  exact ne_dataH ra rb sh sh hu (by rw [eq]; exact h)
/-- the row that is handed to the table -/
theorem row_seq {news : List (Addr × Obj)} {v : Value} {x : Str} (q : Qv) (h : DatIn news v (rowD x q)) : SeqIn news v (itemsOf x q) := by
  have hl : ∀ ds : List Dat, DatIn news v (.list ds) → SeqIn news v ds := fun ds h => by
    cases h with
    | list m r => exact .list m r
  cases q with
  | none => exact hl _ h
  | zero => exact hl _ h
  | one =>
    cases h with
    | str _ t => exact .str x t
  | two => exact hl _ h
  | three => exact hl _ h
end Mine
namespace Mine
theorem items_le (x : Str) (q : Qv) : (itemsOf x q).length ≤ x.length := by
  have hw : ((Txt.words x).map Dat.str).length ≤ x.length := by
    have := fact_words x
    rw [List.length_map]; omega
  cases q with
  | none => exact hw
  | zero => exact hw
  | one => show (signs x).length ≤ _; rw [signs_length]; exact Nat.le_refl _
  | two => show (grams 2 x).length ≤ _; rw [grams_length]; omega
  | three => show (grams 3 x).length ≤ _; rw [grams_length]; omega
theorem lev_nat (x y : Str) (q : Qv) : ∃ n : Nat, levD (itemsOf x q) (itemsOf y q) = (n : Int) ∧ n ≤ max x.length y.length := by
  have h0 := levD_nonneg (itemsOf x q) (itemsOf y q)
  have h1 := levD_le (itemsOf x q) (itemsOf y q)
  have h2 := items_le x q
  have h3 := items_le y q
  exact ⟨(levD (itemsOf x q) (itemsOf y q)).toNat, (Int.toNat_of_nonneg h0).symm, by omega⟩
end Mine
end
-- XC
theorem Mine.off_XC : True := by
  w_top off
  trivial
section
open PySem PySem.W PySem.Spec PySem.Calls PyProof.Rows PyProof.V
set_option maxRecDepth 100000
namespace Mine
abbrev cellNone : Obj := { cls := .type "cell", data := .cell none }
abbrev dictNone : Obj := { cls := .type "dict", data := .dict #[] }
abbrev listNone : Obj := { cls := .type "list", dict := none, data := .seq ([] : List Value).toArray }
/-- a comprehension's names laid anew, one of them in a cell -/
theorem env_cell {M : Model} {A : Around} {E : Value → Shared → Prop} {s : Shared} {scope : Scope} {globals : Addr} {cl : List (Str × Addr)} {qual : Str} {outer : Env} {x : Str} {Q : Env → Shared → Prop}
    (hcf : ∀ n, cellsFrom n scope.names cl = (x, n) :: cl) (hpc : ∀ h, pushCells h scope.names = h.push cellNone)
    (hQ : Q (newEnv scope s.heap.objs.size globals ((x, s.heap.objs.size + 1) :: cl) qual none .none (some outer) builtinsNs) { s with heap := (s.heap.push dictNone).push cellNone }) :
    wpAny M A (newFunctionEnv scope globals cl [] qual none .none (some outer)) Q E s := by
  simp only [newFunctionEnv, Option.isSome_some, if_true]
  refine wpAny_bind (wpAny_alloc ?_)
  refine wpAny_bind (wpAny_layCells _ (fun name kind cells => by cases hkc : kind == NameKind.cell <;> simp) _ _ _ _ ?_)
  rw [hcf, hpc, List.forIn_nil, show ({ s with heap := s.heap.push dictNone } : Shared).heap.objs.size = s.heap.objs.size + 1 from Heap.size_push ..]
  exact wpAny_bind (wpAny_pure (wpAny_pure hQ))
/-- the end of a turn of such a comprehension -/
def CellEnd (h₀ : Heap) (L : Addr) (m : Str → Option Value) (s₁ : Shared) (I : Addr) (oI : Obj) (C : Addr) (oC : Obj) (D : Addr) (oD : Obj) (K : Addr) (oK : Obj) (rest : Value → List (Addr × Obj) → Prop) (y : Value) (s₂ : Shared) : Prop :=
  ∃ h' tk nx', s₂ = { s₁ with heap := h', toks := tk } ∧ Fr h₀ L h' m ∧ News h₀ L h' ((I, oI) :: (C, oC) :: (D, oD) :: (K, oK) :: nx') ∧ (∀ p ∈ nx', p.1 ≠ I ∧ p.1 ≠ C ∧ p.1 ≠ D ∧ p.1 ≠ K) ∧ rest y nx'
section
variable {prog : Program} {w : World} {A : Around} {E : Value → Shared → Prop} {s : Shared} {h₀ : Heap} {L : Addr} {m : Str → Option Value} {env : Env}
theorem rows_comp {elt iter : Expr} {x y : Str} {px py : Pos} {scope : Scope} {cl : List (Str × Addr)} {pos spos : Pos} {Q : Flow → Shared → Prop} {ax : Addr} {its : Array Value} {nd : Nat} {news : List (Addr × Obj)}
    (J : Nat → List Value → List (Addr × Obj) → Prop)
    (_F₀ : Fr h₀ L s.heap m) (_N₀ : News h₀ L s.heap news) (hLe : env.locals = L)
    (hsw : swapsWith (.ListComp elt [⟨.Name x px, iter, [], 0⟩] scope pos) (some (.Name y py)) spos.line env = pure true)
    (hclos : closureFor scope env = pure cl) (hcf : ∀ n, cellsFrom n scope.names cl = (x, n) :: cl) (hpc : ∀ h, pushCells h scope.names = h.push cellNone) (hkind : scope.kind = .function)
    (hnames : ∀ z ∈ scope.names, z.2 = .local → scope.names.lookup z.1 = some .local) (hx : (relabel scope env).names.lookup x = some .cell)
    (hy : env.kindOf y = some .local) (hp : (env.scope.kind == .class || (env.scope.kind == .module && env.locals != env.globals)) = false)
    (hs : ∀ x, foldedSetIterable iter env x = pure x) (hh : A.handled = none)
    (h : wpAny (model prog w) A (eval iter env) (fun xv s₁ => xv = .ref ax ∧ (∃ hp tk, s₁ = { s with heap := hp, toks := tk }) ∧ Fr h₀ L s₁.heap m ∧ News h₀ L s₁.heap news) E s)
    (hsz : its.size ≤ sizeLine) (hj : J 0 [] news) (hsrc : ∀ i ys nx, J i ys nx → (ax, listOf its nd) ∈ nx)
    (turn : ∀ i v I oI C oC D K oK ys nx hp tk (E' : Value → Shared → Prop), its[i]? = some v → J i ys nx → oK.data = .cell (some v) → Fr h₀ L hp m → News h₀ L hp ((I, oI) :: (C, oC) :: (D, LCg.lst ys) :: (K, oK) :: nx) →
      (∀ p ∈ nx, p.1 ≠ I ∧ p.1 ≠ C ∧ p.1 ≠ D ∧ p.1 ≠ K) → I < D → D < C → C < K →
      wpAny (model prog w) A (eval elt (compEnvC scope ((x, K) :: cl) C env)) (CellEnd h₀ L m { s with heap := hp, toks := tk } I oI C oC D (LCg.lst ys) K oK (fun y nx' => J (i + 1) (ys ++ [y]) nx')) E' { s with heap := hp, toks := tk })
    (done : ∀ R hp tk ys nx, J its.size ys nx → Fr h₀ L hp (fun z => if z = y then some (.ref R) else m z) → News h₀ L hp ((R, LCg.lst ys) :: nx) → (∀ p ∈ nx, p.1 ≠ R) → Q .next { s with heap := hp, toks := tk }) :
    wpAny (model prog w) A (exec (.Assign [.Name y py] (.ListComp elt [⟨.Name x px, iter, [], 0⟩] scope pos) spos) env) Q E s := by
  subst hLe
  rw [exec_Assign_Name_used _ _ _ _ hsw]
  refine wpAny_bind (wpAny_standAt (wpAny_bind ?_))
  show wpAny _ A (do let _ ← comprehension (.ListComp elt [⟨.Name x px, iter, [], 0⟩] scope pos) scope env _ (newList []) false (eval iter env) (some (assign (.Name y py) env))) _ _ s
  refine wpAny_bind (wpAny_mono (wpAny_comprehension_free (use := some (assign (.Name y py) env)) (Q := fun _ s' => Q .next s') rfl hs hclos hkind hnames
    (wpAny_mono h (fun xv s₁ h₁ => ?_) fun _ _ e => e)) (fun _ s' hq => wpAny_pure (wpAny_pure hq)) fun _ _ e => e)
  obtain ⟨rfl, ⟨g₁, tk₁, rfl⟩, F, N⟩ := h₁
  dsimp only at F N
  have hl : g₁.IsList ax its := ⟨_, (N _ (hsrc _ _ _ hj)).1, rfl, _, rfl⟩
  refine wpAny_pyIter_list hl ?_
  dsimp only
  refine wpAny_newObj_type ?_
  dsimp only
  refine env_cell hcf hpc ?_
  dsimp only [newEnv]
  -- the addresses
  generalize hI : g₁.objs.size = I
  generalize hg₂ : g₁.push { cls := .type "list_iterator", data := .fields #[.ref ax, .int 0 0] } = g₂
  have hD : g₂.objs.size = I + 1 := by rw [← hg₂, Heap.size_push, hI]
  generalize hg₃ : g₂.push listNone = g₃
  have hC : g₃.objs.size = I + 2 := by rw [← hg₃, Heap.size_push, hD]
  generalize hg₄ : g₃.push dictNone = g₄
  have hK : g₄.objs.size = I + 3 := by rw [← hg₄, Heap.size_push, hC]
  generalize hg₅ : g₄.push cellNone = g₅
  rw [hD, hC]
  have u12 : ∀ b o, g₁.get? b = some o → g₂.get? b = some o := fun b o e => hg₂ ▸ Heap.get?_push_of_some _ e
  have u23 : ∀ b o, g₂.get? b = some o → g₃.get? b = some o := fun b o e => hg₃ ▸ Heap.get?_push_of_some _ e
  have u34 : ∀ b o, g₃.get? b = some o → g₄.get? b = some o := fun b o e => hg₄ ▸ Heap.get?_push_of_some _ e
  have u45 : ∀ b o, g₄.get? b = some o → g₅.get? b = some o := fun b o e => hg₅ ▸ Heap.get?_push_of_some _ e
  have up : ∀ b o, g₁.get? b = some o → g₅.get? b = some o := fun b o e => u45 _ _ (u34 _ _ (u23 _ _ (u12 _ _ e)))
  have eI : g₅.get? I = some { cls := .type "list_iterator", data := .fields #[.ref ax, .int 0 0] } := u45 _ _ (u34 _ _ (u23 _ _ (by rw [← hg₂, ← hI]; exact Heap.get?_push_size _ rfl)))
  have eD : g₅.get? (I + 1) = some (LCg.lst []) := u45 _ _ (u34 _ _ (by rw [← hg₃, ← hD]; exact Heap.get?_push_size _ rfl))
  have eC : g₅.get? (I + 2) = some dictNone := u45 _ _ (by rw [← hg₄, ← hC]; exact Heap.get?_push_size _ rfl)
  have eK : g₅.get? (I + 3) = some cellNone := by rw [← hg₅, ← hK]; exact Heap.get?_push_size _ rfl
  have hL : env.locals < I := hI ▸ F.ns.lt
  have new₀ : ∀ a, I ≤ a → h₀.get? a = none := fun a ha => by
    cases e : h₀.get? a with
    | none => rfl
    | some o' => exact absurd (Heap.lt_size (F.keep a o' e)) (by rw [hI]; exact Nat.not_lt.mpr ha)
  have old : ∀ p ∈ news, p.1 < I := fun p hp => hI ▸ Heap.lt_size (N p hp).1
  have hax : ax < I := old _ (hsrc _ _ _ hj)
  have W := Walks.list (prog := prog) (w := w) hh I ax (Nat.ne_of_lt hax) its
  have st₀ : g₅.IsListIter I ax 0 ∧ g₅.IsList ax its := ⟨⟨_, eI, rfl, rfl⟩, hl.at fun o e => up _ _ e⟩
  have nsC : LCg.NsObj dictNone (fun _ => none) := by
    obtain ⟨o, e, hno⟩ := LCg.ns_obj (Heap.Ns.new g₃ (.type "dict"))
    have e2 : (g₃.push dictNone).get? g₃.objs.size = some dictNone := Heap.get?_push_size _ rfl
    rw [e2] at e
    cases e
    exact hno
  have loop : ∀ s₃ : Shared, s₃ = { s with heap := g₅, toks := tk₁ } →
      codeAny (model prog w) A (.compLoop (.ListComp elt [⟨.Name x px, iter, [], 0⟩] scope pos) 0 (.ref I) (.ref (I + 1)) (compEnvC scope ((x, I + 3) :: cl) (I + 2) env))
        (compPost (model prog w) A E (some (assign (.Name y py) env)) (fun _ s' => Q .next s') (.ref (I + 1)) (I + 2)) s₃ := by
    rintro s₃ rfl
    refine codeAny_compLoop_list
      (fun k s' => ∃ h' tk i ys nx oK, s' = { s with heap := h', toks := tk } ∧ i ≤ its.size ∧ k = its.size + 1 - i ∧ ys.length = i ∧ (h'.IsListIter I ax i ∧ h'.IsList ax its) ∧ Fr h₀ env.locals h' m ∧
        News h₀ env.locals h' ((I + 2, dictNone) :: (I + 1, LCg.lst ys) :: (I + 3, oK) :: nx) ∧ (∃ v, oK.data = .cell v) ∧ (∀ p ∈ nx, p.1 ≠ I ∧ p.1 ≠ I + 2 ∧ p.1 ≠ I + 1 ∧ p.1 ≠ I + 3) ∧ J i ys nx) ?_ (its.size + 1)
      ⟨g₅, _, 0, [], news, cellNone, rfl, Nat.zero_le _, rfl, rfl, st₀, F.keeps up, ?_, ⟨none, rfl⟩, fun p hp => ?_, hj⟩
    · rintro k s' ⟨h', tk, i, ys, nx, oK, rfl, hi, rfl, hyl, hst, F', N', ⟨vK, hvK⟩, off, hJ⟩
      by_cases hlt : i < its.size
      · refine W.item i _ _ _ hlt hst fun v h₂ tk₂ hv hst₂ hk₂ => ?_
        have F₂ := LCg.fr_but F' hk₂ (Nat.ne_of_lt hL) (new₀ I (Nat.le_refl _))
        have N₂ := LCg.news_but N' hk₂ (fun p hp => by
          rcases List.mem_cons.mp hp with rfl | hp
          · exact (by show I + 2 ≠ I; omega)
          rcases List.mem_cons.mp hp with rfl | hp
          · exact (by show I + 1 ≠ I; omega)
          rcases List.mem_cons.mp hp with rfl | hp
          · exact (by show I + 3 ≠ I; omega)
          · exact (off p hp).1)
        have zK := (N₂ _ (.tail _ (.tail _ (.head _)))).1
        dsimp only
        refine wpAny_assign_Name (wpAny_storeName_cell (c := I + 3) (v₀ := vK) hkind hx (by simp [compEnvC]) ⟨oK, zK, hvK⟩ fun h₃ hc₃ hs₃ => ?_)
        obtain ⟨oK', eK', dK'⟩ := hc₃
        have F₃ := F₂.change hs₃ (Nat.ne_of_gt (Nat.lt_trans hL (by omega))) (new₀ _ (by omega))
        have st₃ : h₃.IsListIter I ax (i + 1) ∧ h₃.IsList ax its := W.frame _ _ _ hst₂ fun b hb o e => hs₃.extBut b o (by
          rcases List.mem_cons.mp hb with rfl | hb
          · exact Nat.ne_of_lt (Nat.lt_add_of_pos_right (by decide))
          · rw [List.mem_singleton.mp hb]; exact Nat.ne_of_lt (Nat.lt_add_right 3 hax)) e
        obtain ⟨oI, heI, hrI⟩ := st₃.1
        have N₃ : News h₀ env.locals h₃ ((I, oI) :: (I + 2, dictNone) :: (I + 1, LCg.lst ys) :: (I + 3, oK') :: nx) := fun p hp => by
          rcases List.mem_cons.mp hp with rfl | hp
          · exact ⟨heI, Nat.ne_of_gt hL, new₀ _ (Nat.le_refl _)⟩
          rcases List.mem_cons.mp hp with rfl | hp
          · exact ⟨hs₃.extBut _ _ (by show I + 2 ≠ I + 3; omega) (N₂ _ (.head _)).1, (N₂ _ (.head _)).2⟩
          rcases List.mem_cons.mp hp with rfl | hp
          · exact ⟨hs₃.extBut _ _ (by show I + 1 ≠ I + 3; omega) (N₂ _ (.tail _ (.head _))).1, (N₂ _ (.tail _ (.head _))).2⟩
          rcases List.mem_cons.mp hp with rfl | hp
          · exact ⟨eK', (N₂ _ (.tail _ (.tail _ (.head _)))).2⟩
          · have z := N₂ _ (.tail _ (.tail _ (.tail _ hp)))
            exact ⟨hs₃.extBut _ _ (off p hp).2.2.2 z.1, z.2⟩
        refine wpAny_mono (turn i v I oI (I + 2) dictNone (I + 1) (I + 3) oK' ys nx h₃ tk₂ _ hv hJ dK' F₃ N₃ off (Nat.lt_succ_self _) (Nat.lt_succ_self _) (Nat.lt_succ_self _)) (fun yv s₄ h₄ => ?_) fun _ _ e => e
        obtain ⟨h₄, tk₄, nx', rfl, F₄, N₄, off₄, hJ'⟩ := h₄
        have zD := (N₄ _ (.tail _ (.tail _ (.head _)))).1
        have st₄ : h₄.IsListIter I ax (i + 1) ∧ h₄.IsList ax its := ⟨⟨oI, (N₄ _ (.head _)).1, hrI⟩, ⟨_, (N₄ _ (.tail _ (.tail _ (.tail _ (.tail _ (hsrc _ _ _ hJ')))))).1, rfl, _, rfl⟩⟩
        refine append_at (hsz := by rw [List.size_toArray, hyl]; exact Nat.le_trans hi hsz) zD fun h₅ hs₅ hD₅ => ?_
        refine ⟨its.size + 1 - (i + 1), by omega, h₅, tk₄, i + 1, ys ++ [yv], nx', oK', rfl, hlt, rfl, by rw [List.length_append, List.length_singleton, hyl], W.frame _ _ _ st₄ fun b hb o e => hs₅.extBut b o (by
          rcases List.mem_cons.mp hb with rfl | hb
          · exact Nat.ne_of_lt (Nat.lt_add_of_pos_right (by decide))
          · rw [List.mem_singleton.mp hb]; exact Nat.ne_of_lt (Nat.lt_add_right 1 hax)) e, F₄.change hs₅ (Nat.ne_of_gt (Nat.lt_trans hL (by omega))) (new₀ _ (by omega)), fun p hp => ?_, ⟨_, dK'⟩, off₄, hJ'⟩
        rcases List.mem_cons.mp hp with rfl | hp
        · exact ⟨hs₅.extBut _ _ (by show I + 2 ≠ I + 1; omega) (N₄ _ (.tail _ (.head _))).1, (N₄ _ (.tail _ (.head _))).2⟩
        rcases List.mem_cons.mp hp with rfl | hp
        · exact ⟨hD₅.trans (congrArg some (LCg.lst_snoc ys yv)), (N₄ _ (.tail _ (.tail _ (.head _)))).2⟩
        rcases List.mem_cons.mp hp with rfl | hp
        · exact ⟨hs₅.extBut _ _ (by show I + 3 ≠ I + 1; omega) (N₄ _ (.tail _ (.tail _ (.tail _ (.head _))))).1, (N₄ _ (.tail _ (.tail _ (.tail _ (.head _))))).2⟩
        · have z := N₄ _ (.tail _ (.tail _ (.tail _ (.tail _ hp))))
          exact ⟨hs₅.extBut _ _ (off₄ p hp).2.2.1 z.1, z.2⟩
      · obtain rfl : i = its.size := Nat.le_antisymm hi (Nat.not_lt.mp hlt)
        refine W.done _ _ _ hst fun h₂ tk₂ hk₂ => ?_
        have F₂ := LCg.fr_but F' hk₂ (Nat.ne_of_lt hL) (new₀ I (Nat.le_refl _))
        have N₂ := LCg.news_but N' hk₂ (fun p hp => by
          rcases List.mem_cons.mp hp with rfl | hp
          · exact (by show I + 2 ≠ I; omega)
          rcases List.mem_cons.mp hp with rfl | hp
          · exact (by show I + 1 ≠ I; omega)
          rcases List.mem_cons.mp hp with rfl | hp
          · exact (by show I + 3 ≠ I; omega)
          · exact (off p hp).1)
        show wpAny _ A (assign (.Name y py) env (.ref (I + 1))) _ _ _
        refine wpAny_assign_Name (wpAny_storeName_local hy F₂.ns (fun h₃ hn₃ hs₃ => ?_) hp)
        have hL₀ : h₀.get? env.locals = none := Heap.get?_none_of_le F₂.above
        have F₃ : Fr h₀ env.locals h₃ (fun z => if z = y then some (.ref (I + 1)) else m z) := ⟨hn₃, fun b o e => hs₃.extBut b o (fun q => by rw [q, hL₀] at e; cases e) (F₂.keep b o e), F₂.above⟩
        have N₃ : News h₀ env.locals h₃ ((I + 2, dictNone) :: (I + 1, LCg.lst ys) :: (I + 3, oK) :: nx) := fun p hp => ⟨hs₃.extBut _ _ (N₂ p hp).2.1 (N₂ p hp).1, (N₂ p hp).2⟩
        refine ⟨_, nsC.ns (N₃ _ (.head _)).1, fun h'' hs'' => done (I + 1) h'' _ ys nx hJ (F₃.change hs'' (Nat.ne_of_gt (Nat.lt_trans hL (by omega))) (new₀ _ (by omega))) (fun p hp => ?_) fun p hp => (off p hp).2.2.1⟩
        rcases List.mem_cons.mp hp with rfl | hp
        · exact ⟨hs''.extBut _ _ (by show I + 1 ≠ I + 2; omega) (N₃ _ (.tail _ (.head _))).1, (N₃ _ (.tail _ (.head _))).2⟩
        · have z := N₃ _ (.tail _ (.tail _ (.tail _ hp)))
          exact ⟨hs''.extBut _ _ (off p hp).2.1 z.1, z.2⟩
    · intro p hp
      rcases List.mem_cons.mp hp with rfl | hp
      · exact ⟨eC, Nat.ne_of_gt (Nat.lt_trans hL (by omega)), new₀ _ (by omega)⟩
      rcases List.mem_cons.mp hp with rfl | hp
      · exact ⟨eD, Nat.ne_of_gt (Nat.lt_trans hL (by omega)), new₀ _ (by omega)⟩
      rcases List.mem_cons.mp hp with rfl | hp
      · exact ⟨eK, Nat.ne_of_gt (Nat.lt_trans hL (by omega)), new₀ _ (by omega)⟩
      · exact ⟨up _ _ (N p hp).1, (N p hp).2⟩
    · have := old p hp
      exact ⟨Nat.ne_of_lt this, Nat.ne_of_lt (Nat.lt_add_right 2 this), Nat.ne_of_lt (Nat.lt_add_right 1 this), Nat.ne_of_lt (Nat.lt_add_right 3 this)⟩
  exact codeAny_compStart_list (loop _ rfl) (W.self 0 _ _ _ st₀ (loop _ rfl))
end
end Mine
end
-- TS
theorem Mine.off_TS : True := by
  w_top off
  trivial
section
open PySem PySem.W PySem.Spec PySem.Calls PyProof.Rows PyProof.V
set_option maxRecDepth 100000
namespace Mine
theorem slice_mid (x : Str) (j n : Nat) (h : j + n ≤ x.length) : Txt.slice x (some (j : Int)) (some ((j : Int) + (n : Int))) = ⟨((x.cps.toList.drop j).take n).toArray⟩ := by
  show StrLaws.sliceText x (some (j : Int)) (some ((j : Int) + (n : Int))) = _
  have e := StrLaws.sliceText_nat x (a := j) (b := j + n) (by omega) h
  rw [Int.natCast_add] at e
  rw [e, Nat.add_sub_cancel_left]
theorem strsAre_get : ∀ {vs : List Value} {xs : List Str}, vs.length = xs.length → (∀ i v, vs[i]? = some v → ∃ t, ∃ h : i < xs.length, v = .str xs[i] t) → StrsAre vs xs
  | [], [], _, _ => .nil
  | v :: vs, x :: xs, hl, h => by
    obtain ⟨t, _, rfl⟩ := h 0 v rfl
    refine .cons x t (strsAre_get (by simpa using hl) fun i w hw => ?_)
    obtain ⟨t', hi, e⟩ := h (i + 1) w (by simpa using hw)
    exact ⟨t', by simpa using hi, by simpa using e⟩
  | [], _ :: _, hl, _ => by simp at hl
  | _ :: _, [], hl, _ => by simp at hl
/-- a tuple of a text's signs from the j-th on, n of them -/
theorem tuple_slice {prog : Program} {w : World} {A : Around} {E : Value → Shared → Prop} {s : Shared} {h₀ : Heap} {L : Addr} {m : Str → Option Value} {news : List (Addr × Obj)} {Q : Value → Shared → Prop} {x y : Str} {t : Tok} (j n : Nat)
    (F : Fr h₀ L s.heap m) (N : News h₀ L s.heap news) (hh : A.handled = none) (hjn : j + n ≤ x.length) (hl : x.length ≤ 6) (e : y = Txt.slice x (some (j : Int)) (some ((j : Int) + (n : Int))))
    (h : ∀ T h' tk vs, Fr h₀ L h' m → News h₀ L h' ((T, ({ cls := .type "tuple", data := .seq vs.toArray } : Obj)) :: news) → (∀ p ∈ news, p.1 < T) → StrsAre vs ((List.range n).map fun i => sgn x (j + i)) → Q (.ref T) { s with heap := h', toks := tk }) :
    wpAny (model prog w) A (call (.type "tuple") [.str y t]) Q E s := by
  subst e
  rw [slice_mid x j n hjn]
  have hlen : (((x.cps.toList.drop j).take n).toArray).size = n := by
    have : x.cps.toList.length = x.length := by simp [Str.length]
    simp only [List.size_toArray, List.length_take, List.length_drop]
    omega
  refine call_tuple_str hh _ t (fun h' tk acc hk hacc => ?_) (by show (((x.cps.toList.drop j).take n).toArray).size ≤ _; rw [hlen, sizeLine_eq]; omega)
  have F' : Fr h₀ L h' m := F.keeps hk
  have N' : News h₀ L h' news := fun p hp => ⟨hk _ _ (N p hp).1, (N p hp).2⟩
  have hnew : h₀.get? h'.objs.size = none := none_at_end F'
  have ea : acc = acc.toList.toArray := by simp
  refine h h'.objs.size _ tk acc.toList (F'.push _) (fun p hp => ?_) (fun p hp => Heap.lt_size (N' p hp).1) ?_
  · rcases List.mem_cons.mp hp with rfl | hp
    · refine ⟨?_, Nat.ne_of_gt F'.ns.lt, hnew⟩
      rw [← ea]
      exact Heap.get?_push_size _ rfl
    · exact ⟨Heap.get?_push_of_some _ (N' p hp).1, (N' p hp).2⟩
  · have hsz : acc.size = n := by rw [hacc.1]; exact hlen
    refine strsAre_get (by simp [hsz]) fun i v hv => ?_
    obtain ⟨c, u, hc, rfl⟩ := hacc.2 i v (by simpa using hv)
    have hi : i < n := by
      have := (List.getElem?_eq_some_iff.mp hv).1
      simp at this; omega
    refine ⟨u, by simpa using hi, ?_⟩
    have hc' : (((x.cps.toList.drop j).take n).toArray)[i]? = some c := hc
    have h2 : x.cps[j + i]? = some c := by
      rw [List.getElem?_toArray, List.getElem?_take_of_lt hi, List.getElem?_drop, Array.getElem?_toList] at hc'
      exact hc'
    simp [sgn, h2]
theorem rsize_g2 {n : Nat} (h : n ≤ 6) : Builtin.Range.rangeSize 0 ((n : Int) - 2 + 1) 1 = ((n + 1 - 2 : Nat) : Int) := by
  rcases six h with rfl | rfl | rfl | rfl | rfl | rfl | rfl <;> decide
theorem rsmall_g2 {n : Nat} (h : n ≤ 6) : Builtin.Range.small 0 ((n : Int) - 2 + 1) 1 = true := by
  rcases six h with rfl | rfl | rfl | rfl | rfl | rfl | rfl <;> decide
theorem rsize_g3 {n : Nat} (h : n ≤ 6) : Builtin.Range.rangeSize 0 ((n : Int) - 3 + 1) 1 = ((n + 1 - 3 : Nat) : Int) := by
  rcases six h with rfl | rfl | rfl | rfl | rfl | rfl | rfl <;> decide
theorem rsmall_g3 {n : Nat} (h : n ≤ 6) : Builtin.Range.small 0 ((n : Int) - 3 + 1) 1 = true := by
  rcases six h with rfl | rfl | rfl | rfl | rfl | rfl | rfl <;> decide
/-- the pieces made so far -/
def pieces (n : Nat) (z : Str) (j : Nat) : List Dat := (List.range j).map fun k => .tuple ((List.range n).map fun i => Dat.str (sgn z (k + i)))
theorem pieces_succ (n : Nat) (z : Str) (j : Nat) : pieces n z (j + 1) = pieces n z j ++ [.tuple (((List.range n).map fun i => sgn z (j + i)).map Dat.str)] := by
  unfold pieces
  rw [List.range_succ, List.map_append, List.map_map]
  rfl
theorem pieces_all (n : Nat) (z : Str) : pieces n z (z.length + 1 - n) = grams n z := rfl
end Mine
end
-- LW
theorem Mine.off_LW : True := by
  w_top off
  trivial
section
open PySem PySem.W PySem.Spec PySem.Calls PyProof.Rows PyProof.V
set_option maxRecDepth 100000
set_option maxHeartbeats 8000000
namespace Mine
/-- where the law stands: the frame's names, the ledger -/
def AtK (h₀ : Heap) (L : Addr) (ps : List (Str × Value)) (s₀ : Shared) (P : List (Addr × Obj) → Prop) (s' : Shared) : Prop :=
  ∃ m h tk nw, s' = { s₀ with heap := h, toks := tk } ∧ Fr h₀ L h (kstB m ps) ∧ News h₀ L h nw ∧ P nw
theorem AtK.mk {h₀ h : Heap} {L : Addr} {ps : List (Str × Value)} {s₀ : Shared} {P : List (Addr × Obj) → Prop} {tk : Nat} {m : Str → Option Value} {nw : List (Addr × Obj)} (F : Fr h₀ L h m) (N : News h₀ L h nw) (hp : ∀ p ∈ ps, m p.1 = some p.2) (x : P nw) :
    AtK h₀ L ps s₀ P { s₀ with heap := h, toks := tk } := ⟨m, h, tk, nw, rfl, fr_named0 ps hp F, N, x⟩
abbrev frH {h₀ : Heap} {L : Addr} {h : Heap} {m : Str → Option Value} (_F : Fr h₀ L h m) : Heap := h₀
abbrev frL {h₀ : Heap} {L : Addr} {h : Heap} {m : Str → Option Value} (_F : Fr h₀ L h m) : Addr := L
abbrev neW {h₀ : Heap} {L : Addr} {h : Heap} {news : List (Addr × Obj)} (_N : News h₀ L h news) : List (Addr × Obj) := news
abbrev liA {h : Heap} {l : Addr} {its : Array Value} (_H : h.IsList l its) : Addr := l
theorem execs_cutS {M : Model} {A : Around} {Q : Flow → Shared → Prop} {E : Value → Shared → Prop} {s : Shared} {env : Env} {st : Stmt} {rest : List Stmt} (I : Shared → Shared → Prop)
    (head : wpAny M A (exec st env) (Mid (I s)) E s) (tail : ∀ s', I s s' → wpAny M A (execs rest env) Q E s') : wpAny M A (execs (st :: rest) env) Q E s := execs_cut (I s) head tail
theorem fr_back {g g' h : Heap} {L : Addr} {m : Str → Option Value} (T : KtsTurn [] g g') (F : Fr g' L h m) : Fr g L h m :=
  ⟨F.ns, fun b o e => F.keep b o (T.other b o e (fun hb => nomatch hb)), by rw [← T.size]; exact F.above⟩
theorem news_back {g g' h : Heap} {L : Addr} {news : List (Addr × Obj)} (T : KtsTurn [] g g') (N : News g' L h news) : News g L h news := fun p hp => ⟨(N p hp).1, (N p hp).2.1, by
  cases q : g.get? p.1 with
  | none => rfl
  | some o =>
    have := (N p hp).2.2
    rw [T.other _ _ q (fun hb => nomatch hb)] at this
    cases this⟩
theorem meth_sm {prog : Program} {w : World} {A : Around} {E : Value → Shared → Prop} {s : Shared} {K : Frag} {h₀ : Heap} {L x C : Addr} {m : Str → Option Value} {ox : Obj} {es : List DictEntry} {n : Nat} {name : Str} {p : Addr} {pl : Sem Bool} {Q : Value × List Value → Shared → Prop} (F : Fr h₀ L s.heap m) (X₀ : K.In h₀) (I : InstAt s.heap x ox C (some (dictOf es n))) (hg : plainGet K C name = true)
    (hf : findIn K (.ref C) name = some (some (.ref p))) (ht : typeIn K (.ref p) = some (.type "staticmethod"))
    (h : wpAny (model prog w) A (getAttr (.ref x) name) (fun v => Q (v, [])) E s) : wpAny (model prog w) A (getMethod (.ref x) name pl) Q E s :=
  method_usual (X₀.keeps F.keep) I (plainGet_of hg).1 (plainGet_of hg).2 hf (by rw [Option.all_some, ht]; decide +kernel) h
/-- after rows = .. -/
def RowsAtL (h₀ : Heap) (L : Addr) (x y : Str) (t1 t2 : Tok) (q : Qv) (c : Addr × Obj) (s s' : Shared) : Prop :=
  ∃ r nr v1 v2, AtK h₀ L [("first", .str x t1), ("second", .str y t2), ("rows", .ref r)] s (fun nw => c ∈ nw ∧ (r, listOf #[v1, v2] nr) ∈ nw ∧ DatIn nw v1 (rowD x q) ∧ DatIn nw v2 (rowD y q)) s'
local macro_rules | `(tactic| k_room) => `(tactic| ktr_room)
local macro_rules | `(tactic| k_units) => `(tactic| ktr_units)
local macro_rules | `(tactic| k_mem) => `(tactic| assumption)
local macro_rules | `(tactic| walk_at "getAttr ref") => `(tactic| (k_here; k_dflt (refine' get_sm ?k1 ?k2 ?k3 ?k4 ?k5 ?k6 ?k7 ?k8 ?k9 ?k10 ?k11 ?k12 ?_; (case k3 => k_inst); (case k1 => k_asm); (case k2 => k_asm); (case k4 => k_is); (case k5 => k_is); (case k6 => k_is); (case k7 => k_is); (case k8 => k_is); (case k9 => decide +kernel); (case k10 => k_get); (case k11 => k_is); (case k12 => k_handed); k_whole)))
local macro_rules | `(tactic| walk_at "subscriptTail") => `(tactic| (k_here; (with_reducible show wpAny _ _ (subscriptTail _ _ (Value.ref _) (Value.int _ _)) _ _ _); k_dflt (refine' item_ref ?N ?hm ?h0 ?h1 ?hv ?_ ?hs ?ht; (case N => k_asm); (case hm => assumption); (case h0 => decide); (case h1 => decide); (case hv => rfl); (case hs => with_unfolding_all rfl); (case ht => (intro _; with_unfolding_all rfl)); k_whole)))
local macro_rules | `(tactic| k_steps) => `(tactic| repeat' ((fail_if_success (with_reducible show wpAny _ _ (execs (_ :: _) _) _ _ _)); (fail_if_success (with_reducible show Mid _ _ _)); (fail_if_success (with_reducible show wpAny _ _ (pyIter _) (fun it s₂ => LoopAtV _ _ _ _ _ _ _ _ _ it s₂) _ _)); (fail_if_success (with_reducible show LCg.CompSrc _ _ _ _ _ _ _ _ _ _ _ _ _ _)); (fail_if_success (with_reducible show LCg.CompEnd _ _ _ _ _ _ _ _ _ _ _ _ _ _)); (fail_if_success (with_reducible show CellEnd _ _ _ _ _ _ _ _ _ _ _ _ _ _ _)); (fail_if_success (with_reducible show LCg.FinA _ _ _ _ _ _ _ _)); (fail_if_success (with_reducible show wpAny _ _ (call (Value.type "tuple") _) _ _ _)); (fail_if_success (with_reducible show wpAny _ _ (call (Value.ref _) _) _ _ _)); (fail_if_success (with_reducible show wpAny _ _ (compareOp CmpOp.NotEq (Value.ref _) _) _ _ _)); first | (k_unfold; (try dsimp only)) | (k_end; wrow_close) | walk1 | (dsimp only; walk1) | (leave1; walk_say "STEP leave1"; try dsimp only) | fail "no step"))
theorem lawProved : PySem.Challenge.rw_fq5035_01.Holds := hd (by
  w_strict (k_go0; (all_goals try k_fold); k_steps)
  dsimp only
  rename Fr _ _ _ _ => F0
  rename News _ _ _ _ => N0
  rename Heap.IsList _ _ _ => hL
  rename IntsAre _ _ => hI
  rename Below _ _ _ _ => BL
  rename Top _ _ _ _ _ _ => TL
  rename Frag.In _ _ => KX
  refine execs_cutS (fun s s' => ∃ n t, AtK (frH F0) (frL F0) [("script", .ref (liA hL)), ("head", .int n t)] s (fun nw => nw = neW N0) s') ?_ ?_
  · w_strict k_steps
    all_goals (dsimp only; refine' Mid.mk ⟨_, _, AtK.mk (by assumption) (by assumption) ?_ rfl⟩; (all_goals (repeat (first | exact List.forall_mem_nil _ | refine List.forall_mem_cons.mpr ⟨by with_unfolding_all rfl, ?_⟩))))
  rintro sA ⟨n, t, m1, h1, tk1, nw1, rfl, F1, N1, rfl⟩
  dsimp only [neW, frH, frL, liA, kstB] at F1 N1
  dsimp only
  clear F0 N0
  refine execs_cutS (fun s s' => ∃ v o, AtK (frH F1) (frL F1) [("script", .ref (liA hL)), ("head", .int n t)] s (fun nw => nw = [(frL F1 + 1, o)] ∧ o.data = .cell (some v) ∧ ∃ q tq, v = qVal tq q) s') ?_ ?_
  · w_strict k_steps
    all_goals (dsimp only; refine' Mid.mk ⟨_, _, AtK.mk (by assumption) (PyProof.Rows.News.tail' (by assumption)) ?_ ⟨rfl, by assumption, ?_⟩⟩; (all_goals (try (repeat (first | exact List.forall_mem_nil _ | refine List.forall_mem_cons.mpr ⟨by with_unfolding_all rfl, ?_⟩)))); (all_goals (first | exact ⟨.none, 0, rfl⟩ | exact ⟨.zero, _, rfl⟩ | exact ⟨.one, _, rfl⟩ | exact ⟨.two, _, rfl⟩ | exact ⟨.three, _, rfl⟩)))
  rintro sA ⟨_, o, m2, h2, tk2, nw2, rfl, F2, N2, rfl, hcel, q, tq, rfl⟩
  dsimp only [frH, frL, liA, kstB] at F2 N2
  dsimp only
  clear F1 N1
  refine execs_cutS (fun s s' => ∃ D t1 t2 nd, AtK (frH F2) (frL F2) [("script", .ref (liA hL)), ("texts", .ref D)] s (fun nw => nw = [(D, listOf #[.str (Str.ofString "") t1, .str (Str.ofString "") t2] nd), (frL F2 + 1, o)] ∧ frL F2 + 1 < D) s') ?_ ?_
  · w_strict k_steps
    all_goals (dsimp only; refine' Mid.mk ⟨_, _, _, _, AtK.mk (by assumption) (by assumption) ?_ ⟨rfl, by assumption⟩⟩; (all_goals (repeat (first | exact List.forall_mem_nil _ | refine List.forall_mem_cons.mpr ⟨by with_unfolding_all rfl, ?_⟩))))
  rintro sA ⟨D, t1, t2, nd, m3, h3, tk3, nw3, rfl, F3, N3, rfl, hD⟩
  dsimp only [frH, frL, liA, kstB] at F3 N3 hD
  dsimp only
  clear F2 N2
  refine execs_cutS (fun s s' => ∃ x y t1 t2, AtK (frH F3) (frL F3) [("texts", .ref D)] s (fun nw => nw = [(D, listOf #[.str x t1, .str y t2] nd), (frL F3 + 1, o)] ∧ ascii x = true ∧ ascii y = true ∧ x.length ≤ 6 ∧ y.length ≤ 6) s') ?_ ?_
  · w_strict (refine For_invVF F3 (by rfl) (by rfl) ?_)
    w_strict k_steps
    rename Fr _ _ _ _ => FL
    rename News _ _ _ (_ :: _) => NL
    rename IntsAre _ (List.take _ _) => hJ
    rename _ ∧ _ < _ => hlt
    have hne : ∀ p ∈ [(D, listOf #[.str (Str.ofString "") t1, .str (Str.ofString "") t2] nd), (frL F3 + 1, o)], p.1 ≠ _ := List.forall_mem_cons.mpr ⟨Nat.ne_of_lt hlt.1, List.forall_mem_cons.mpr ⟨Nat.ne_of_lt hlt.2, List.forall_mem_nil _⟩⟩
    w_strict (refine list_loop (fun i m₁ nx => m₁ "texts" = some (.ref D) ∧ ∃ x y t1 t2, nx = [(D, listOf #[.str x t1, .str y t2] nd), (frL F3 + 1, o)] ∧ ascii x = true ∧ ascii y = true ∧ x.length ≤ 6 ∧ y.length ≤ 6) (by rfl) FL NL hJ hne ?_ ?_ ?_)
    · exact ⟨by with_unfolding_all rfl, _, _, _, _, rfl, by decide +kernel, by decide +kernel, by decide +kernel, by decide +kernel⟩
    · rintro i ni ti m₁ nx hh tk own hi hoff ⟨hps, x, y, u1, u2, rfl, hx, hy, hlx, hly⟩ F₁ N₁
      clear FL NL
      have F₂ := fr_named ([("texts", .ref D)] : List (Str × Value)) (List.forall_mem_cons.mpr ⟨hps, List.forall_mem_nil _⟩) F₁
      clear F₁
      try clear F3
      try clear N3
      simp only [List.cons_append, List.nil_append] at N₁
      dsimp only [kstB] at F₂
      dsimp only
      refine execs_cutS (fun s s' => ∃ k t, (k = 0 ∨ k = 1) ∧ AtK (frH F₂) (frL F₂) [("texts", .ref D), ("number", .int ni ti), ("k", .int k t)] s (fun nw => nw = neW N₁) s') ?_ ?_
      · w_strict k_steps
        dsimp only
        refine' Mid.mk ⟨_, _, ?hk, AtK.mk (by assumption) (by assumption) ?hp rfl⟩
        case hp => (repeat (first | exact List.forall_mem_nil _ | refine List.forall_mem_cons.mpr ⟨by with_unfolding_all rfl, ?_⟩))
        case hk =>
          rw [Int.fmod_eq_emod_of_nonneg _ (by decide)]
          omega
      rintro sB ⟨k, t, hk, m4, h4, tk4, nw4, rfl, F4, N4, rfl⟩
      dsimp only [neW, frH, frL, kstB] at F4 N4
      dsimp only
      clear F₂ N₁
      refine execs_cutS (fun s s' => ∃ x y t1 t2, AtK (frH F4) (frL F4) [("texts", .ref D)] s (fun nw => nw = (D, listOf #[.str x t1, .str y t2] nd) :: (frL F4 + 1, o) :: own ∧ ascii x = true ∧ ascii y = true ∧ x.length ≤ 6 ∧ y.length ≤ 6) s') ?_ ?_
      · have hne2 : ∀ p ∈ (frL F4 + 1, o) :: own, p.1 ≠ D := List.forall_mem_cons.mpr ⟨Nat.ne_of_lt hD, fun p hp => hoff p hp D (.head _)⟩
        rcases hk with rfl | rfl
        · w_strict k_steps
          · refine execs_cutS (fun s s' => ∃ x y t1 t2, AtK (frH F4) (frL F4) [("texts", .ref D)] s (fun nw => nw = (D, listOf #[.str x t1, .str y t2] nd) :: (frL F4 + 1, o) :: own ∧ ascii x = true ∧ ascii y = true ∧ x.length ≤ 6 ∧ y.length ≤ 6) s') ?_ fun s' h => by rw [execs_nil]; exact wpAny_pure ⟨rfl, h⟩
            w_strict (iterate 3 (first | (k_unfold; (try dsimp only)) | walk1))
            refine wpAny_getItem_list (x := .str x u1) ⟨_, (N4 _ (.head _)).1, rfl, _, rfl⟩ (by decide) (by decide) (by rfl) ?_
            dsimp only
            w_strict (repeat' ((fail_if_success (with_reducible show wpAny _ _ (inplaceOp _ _ _) _ _ _)); (first | (k_unfold; (try dsimp only)) | walk1 | (dsimp only; walk1))))
            obtain ⟨hg1, hg2⟩ := grown (n := ni.fdiv 2) hx (by assumption)
            refine SB.iadd (fun t' tk' => ?_) (by rw [sizeLine_eq, (sign_ok (mod3 _)).2]; omega)
            dsimp only
            w_strict (repeat' ((fail_if_success (with_reducible show wpAny _ _ (setItem _ _ _) _ _ _)); (first | (k_unfold; (try dsimp only)) | walk1 | (dsimp only; walk1))))
            refine set_at F4 N4 hne2 (by decide) (by decide) (by simp) rfl fun h' F' N' => ?_
            try dsimp only
            w_strict k_steps
            try dsimp only
            refine' Mid.mk ⟨_, y, _, _, AtK.mk F' N' ?_ ⟨rfl, hg1, hy, hg2, hly⟩⟩
            (repeat (first | exact List.forall_mem_nil _ | refine List.forall_mem_cons.mpr ⟨by with_unfolding_all rfl, ?_⟩))
          · dsimp only
            refine' Mid.mk ⟨x, y, _, _, AtK.mk F4 N4 ?_ ⟨rfl, hx, hy, hlx, hly⟩⟩
            (repeat (first | exact List.forall_mem_nil _ | refine List.forall_mem_cons.mpr ⟨by with_unfolding_all rfl, ?_⟩))
        · w_strict k_steps
          · refine execs_cutS (fun s s' => ∃ x y t1 t2, AtK (frH F4) (frL F4) [("texts", .ref D)] s (fun nw => nw = (D, listOf #[.str x t1, .str y t2] nd) :: (frL F4 + 1, o) :: own ∧ ascii x = true ∧ ascii y = true ∧ x.length ≤ 6 ∧ y.length ≤ 6) s') ?_ fun s' h => by rw [execs_nil]; exact wpAny_pure ⟨rfl, h⟩
            w_strict (iterate 3 (first | (k_unfold; (try dsimp only)) | walk1))
            refine wpAny_getItem_list (x := .str y u2) ⟨_, (N4 _ (.head _)).1, rfl, _, rfl⟩ (by decide) (by decide) (by rfl) ?_
            dsimp only
            w_strict (repeat' ((fail_if_success (with_reducible show wpAny _ _ (inplaceOp _ _ _) _ _ _)); (first | (k_unfold; (try dsimp only)) | walk1 | (dsimp only; walk1))))
            obtain ⟨hg1, hg2⟩ := grown (n := ni.fdiv 2) hy (by assumption)
            refine SB.iadd (fun t' tk' => ?_) (by rw [sizeLine_eq, (sign_ok (mod3 _)).2]; omega)
            dsimp only
            w_strict (repeat' ((fail_if_success (with_reducible show wpAny _ _ (setItem _ _ _) _ _ _)); (first | (k_unfold; (try dsimp only)) | walk1 | (dsimp only; walk1))))
            refine set_at F4 N4 hne2 (by decide) (by decide) (by simp) rfl fun h' F' N' => ?_
            try dsimp only
            w_strict k_steps
            try dsimp only
            refine' Mid.mk ⟨x, _, _, _, AtK.mk F' N' ?_ ⟨rfl, hx, hg1, hlx, hg2⟩⟩
            (repeat (first | exact List.forall_mem_nil _ | refine List.forall_mem_cons.mpr ⟨by with_unfolding_all rfl, ?_⟩))
          · dsimp only
            refine' Mid.mk ⟨x, y, _, _, AtK.mk F4 N4 ?_ ⟨rfl, hx, hy, hlx, hly⟩⟩
            (repeat (first | exact List.forall_mem_nil _ | refine List.forall_mem_cons.mpr ⟨by with_unfolding_all rfl, ?_⟩))
      rintro sC ⟨x, y, t1, t2, m6, h6, tk6, nw6, rfl, F6, N6, rfl, hx, hy, hlx, hly⟩
      dsimp only [frH, frL, neW, kstB] at F6 N6
      dsimp only
      w_strict k_steps
      exact InvEndG.intro (nx := [(D, listOf #[.str x t1, .str y t2] nd), (frL F3 + 1, o)]) F6 N6 ⟨by with_unfolding_all rfl, x, y, _, _, rfl, hx, hy, hlx, hly⟩ hoff (fun p hp => List.mem_append_left own hp) (fun p hp => .tail _ (.tail _ hp))
    · rintro m₁ nx hh tk ⟨hps, x, y, u1, u2, rfl, hx, hy, hlx, hly⟩ F₁ N₁
      refine' Mid.mk ⟨x, y, _, _, AtK.mk F₁ N₁ ?_ ⟨rfl, hx, hy, hlx, hly⟩⟩
      exact List.forall_mem_cons.mpr ⟨hps, List.forall_mem_nil _⟩
  rintro sA ⟨x, y, t1, t2, m5, h5, tk5, nw5, rfl, F5, N5, rfl, hx, hy, hlx, hly⟩
  dsimp only [frH, frL, kstB] at F5 N5
  dsimp only
  clear F3 N3
  refine execs_cutS (fun s s' => AtK (frH F5) (frL F5) [("texts", .ref D), ("first", .str x t1), ("second", .str y t2)] s (fun nw => nw = neW N5) s') ?_ ?_
  · w_strict k_steps
    dsimp only
    refine' Mid.mk (AtK.mk (by assumption) (by assumption) ?_ rfl)
    (repeat (first | exact List.forall_mem_nil _ | refine List.forall_mem_cons.mpr ⟨by with_unfolding_all rfl, ?_⟩))
  rintro sA ⟨m6, h6, tk6, nw6, rfl, F6, N6, rfl⟩
  dsimp only [frH, frL, neW, kstB] at F6 N6
  dsimp only
  clear F5 N5
  refine execs_cutS (fun s s' => RowsAtL (frH F6) (frL F6) x y t1 t2 q (frL F6 + 1, o) s s') ?_ ?_
  · cases q
    all_goals dsimp only [qVal] at hcel
    all_goals w_strict k_steps
    · refine execs_cutS (fun s s' => RowsAtL (frH F6) (frL F6) x y t1 t2 .none (frL F6 + 1, o) s s') ?_ (fun s' h => by rw [execs_nil]; exact wpAny_pure ⟨rfl, h⟩)
      w_strict k_steps
      rename List.map _ _ = Txt.words x => e1
      rename List.map _ _ = Txt.words y => e2
      rw [e1, e2] at *
      rename StrsAre _ (Txt.words x) => a1
      rename StrsAre _ (Txt.words y) => a2
      dsimp only
      refine' Mid.mk ⟨_, _, _, _, AtK.mk (by assumption) (by assumption) ?_ ⟨.tail _ (.tail _ (.tail _ (.tail _ (.head _)))), .head _, .list (n := 0) (.tail _ (.tail _ (.head _))) (strsAre_dat a1), .list (n := 0) (.tail _ (.head _)) (strsAre_dat a2)⟩⟩
      (repeat (first | exact List.forall_mem_nil _ | refine List.forall_mem_cons.mpr ⟨by with_unfolding_all rfl, ?_⟩))
    · refine execs_cutS (fun s s' => RowsAtL (frH F6) (frL F6) x y t1 t2 .zero (frL F6 + 1, o) s s') ?_ (fun s' h => by rw [execs_nil]; exact wpAny_pure ⟨rfl, h⟩)
      w_strict k_steps
      rename List.map _ _ = Txt.words x => e1
      rename List.map _ _ = Txt.words y => e2
      rw [e1, e2] at *
      rename StrsAre _ (Txt.words x) => a1
      rename StrsAre _ (Txt.words y) => a2
      dsimp only
      refine' Mid.mk ⟨_, _, _, _, AtK.mk (by assumption) (by assumption) ?_ ⟨.tail _ (.tail _ (.tail _ (.tail _ (.head _)))), .head _, .list (n := 0) (.tail _ (.tail _ (.head _))) (strsAre_dat a1), .list (n := 0) (.tail _ (.head _)) (strsAre_dat a2)⟩⟩
      (repeat (first | exact List.forall_mem_nil _ | refine List.forall_mem_cons.mpr ⟨by with_unfolding_all rfl, ?_⟩))
    · refine execs_cutS (fun s s' => RowsAtL (frH F6) (frL F6) x y t1 t2 .one (frL F6 + 1, o) s s') ?_ (fun s' h => by rw [execs_nil]; exact wpAny_pure ⟨rfl, h⟩)
      w_strict k_steps
      refine execs_cutS (fun s s' => RowsAtL (frH F6) (frL F6) x y t1 t2 .one (frL F6 + 1, o) s s') ?_ (fun s' h => by rw [execs_nil]; exact wpAny_pure ⟨rfl, h⟩)
      w_strict k_steps
      dsimp only
      refine' Mid.mk ⟨_, _, _, _, AtK.mk (by assumption) (by assumption) ?_ ⟨.tail _ (.tail _ (.head _)), .head _, .str x _, .str y _⟩⟩
      (repeat (first | exact List.forall_mem_nil _ | refine List.forall_mem_cons.mpr ⟨by with_unfolding_all rfl, ?_⟩))
    · refine execs_cutS (fun s s' => RowsAtL (frH F6) (frL F6) x y t1 t2 .two (frL F6 + 1, o) s s') ?_ (fun s' h => by rw [execs_nil]; exact wpAny_pure ⟨rfl, h⟩)
      w_strict k_steps
      refine execs_cutS (fun s s' => RowsAtL (frH F6) (frL F6) x y t1 t2 .two (frL F6 + 1, o) s s') ?_ (fun s' h => by rw [execs_nil]; exact wpAny_pure ⟨rfl, h⟩)
      refine rows_comp (cl := [(Str.ofString "q", frL F6 + 1)]) (its := #[.str x t1, .str y t2]) (fun i ys nx => (frL F6 + 1, o) ∈ nx ∧ (D, listOf #[.str x t1, .str y t2] nd) ∈ nx ∧ DatAll nx ys (([.list (grams 2 x), .list (grams 2 y)] : List Dat).take i)) F6 N6 rfl (by rfl) (by rfl) (fun _ => rfl) (fun _ => rfl) (by rfl) (by decide) (by rfl) (by rfl) (by rfl) (by intro _; rfl) (by rfl) ?_ (by rw [sizeLine_eq]; exact Nat.le_of_ble_eq_true rfl) ⟨.tail _ (.head _), .head _, .nil⟩ (fun i ys nx h => h.2.1) ?_ ?_
      · w_strict k_steps
        all_goals (first | exact F6 | exact N6)
      · rintro i v I oI C oC E2 K oK ys nx hp tkp E' hv ⟨hcn, hDn, hys⟩ hoK FP NP off hI1 hI2 hI3
        obtain ⟨z, tz, rfl, hz, hlz, htake⟩ : ∃ z tz, v = .str z tz ∧ ascii z = true ∧ z.length ≤ 6 ∧ ([.list (grams 2 x), .list (grams 2 y)] : List Dat).take (i + 1) = ([.list (grams 2 x), .list (grams 2 y)] : List Dat).take i ++ [.list (grams 2 z)] := by
          rcases i with _ | _ | i
          · exact ⟨x, t1, (Option.some.inj hv).symm, hx, hlx, rfl⟩
          · exact ⟨y, t2, (Option.some.inj hv).symm, hy, hly, rfl⟩
          · cases hv
        clear hv
        dsimp only
        have hcn4 : (frL F6 + 1, o) ∈ (I, oI) :: (C, oC) :: (E2, LCg.lst ys) :: (K, oK) :: nx := .tail _ (.tail _ (.tail _ (.tail _ hcn)))
        dsimp only [frL] at hcn hcn4 ⊢
        refine LCg.ListComp_U (cl := [(Str.ofString "text", K), (Str.ofString "q", frL F6 + 1)]) FP (by rfl) (by decide) (by rfl) (by decide) (by rfl) ?_
        dsimp only [frL, frH] at *
        clear F6 N6
        w_strict k_steps
        rename IsRange _ _ _ _ _ _ _ _ => RG
        rename Fr _ _ _ _ => FL
        rename News _ _ _ _ => NL
        refine LCg.CompSrc.range (by rfl) FL NL RG (rsmall_g2 hlz) (rsize_g2 hlz) (by rw [sizeLine_eq]; omega) ?_
        intro g
        refine comp_invN (fun n0 j zs nx1 => ∃ nw, nx1 = nw ++ n0 ∧ (∀ p ∈ nw, ∀ q ∈ n0, q.1 < p.1) ∧ DatAll nw zs (pieces 2 z j)) ?_ ?_ ⟨[], rfl, fun p hp => (nomatch hp), .nil⟩
        · rintro j v I2 oI2 C2 oC2 D2 m₂ zs nx1 h tk2 E2' hj ⟨tj, rfl⟩ ⟨nw, rfl, hlt, hzs⟩ hoC2 hx2 F2 N2 off2 ne2
          clear FL NL
          have hcn5 := List.Mem.tail (I2, oI2) (List.Mem.tail (C2, oC2) (List.Mem.tail (D2, LCg.lst zs) (List.mem_append_right nw hcn4)))
          have hcK5 : (K, oK) ∈ (I2, oI2) :: (C2, oC2) :: (D2, LCg.lst zs) :: (nw ++ (I, oI) :: (C, oC) :: (E2, LCg.lst ys) :: (K, oK) :: nx) := .tail _ (.tail _ (.tail _ (List.mem_append_right nw (.tail _ (.tail _ (.tail _ (.head _)))))))
          w_strict k_steps
          rename Fr _ _ _ _ => FL
          rename News _ _ _ _ => NL
          refine tuple_slice j 2 FL NL (by rfl) (by omega) hlz (by rw [Int.zero_add]; rfl) ?_
          intro T h9 tk9 vs9 F9 N9 lT aT
          clear FL NL
          w_strict k_steps
          refine compEnd_nw (nw := [(T, _)]) F9 N9 (fun p hp => by rw [List.mem_singleton.mp hp]; exact lT) off2 trivial ⟨(T, _) :: nw, rfl, fun p hp q hq => ?_, ?_⟩
          · rcases List.mem_cons.mp hp with rfl | hp
            · exact lT q (.tail _ (.tail _ (.tail _ (List.mem_append_right nw hq))))
            · exact hlt p hp q hq
          · rw [pieces_succ]
            exact PySem.W.DatAll.append (DatAll.mono (fun p hp => .tail _ hp) hzs) (.cons (.tuple (n := 0) (.head _) (strsAre_dat aT)) .nil)
        · rintro zs nx1 ⟨nw, rfl, hlt, hzs⟩
          clear FL NL
          intro D3 h3 tk3 F3 N3 hoff
          have h5 := off1_ne hoff
          refine ⟨h3, tk3, (D3, LCg.lst zs) :: nw ++ nx, rfl, F3, fun p hp => N3 p ?_, fun p hp => ?_, .tail _ (List.mem_append_right nw hcn), .tail _ (List.mem_append_right nw hDn), ?_⟩
          · simp only [List.cons_append, List.mem_cons, List.mem_append] at hp ⊢
            rcases hp with h | h | h | h | h | h | h <;> simp [h]
          · simp only [List.cons_append, List.mem_cons, List.mem_append] at hp
            rcases hp with rfl | hp | hp
            · exact ⟨Ne.symm (h5 _ (List.mem_append_right nw (.head _))), Ne.symm (h5 _ (List.mem_append_right nw (.tail _ (.head _)))), Ne.symm (h5 _ (List.mem_append_right nw (.tail _ (.tail _ (.head _))))), Ne.symm (h5 _ (List.mem_append_right nw (.tail _ (.tail _ (.tail _ (.head _))))))⟩
            · exact ⟨Nat.ne_of_gt (hlt p hp _ (.head _)), Nat.ne_of_gt (hlt p hp _ (.tail _ (.head _))), Nat.ne_of_gt (hlt p hp _ (.tail _ (.tail _ (.head _)))), Nat.ne_of_gt (hlt p hp _ (.tail _ (.tail _ (.tail _ (.head _)))))⟩
            · exact off p hp
          · rw [htake]
            exact PySem.W.DatAll.append (DatAll.mono (fun p hp => .tail _ (List.mem_append_right nw hp)) hys) (.cons (.list (n := zs.length) (.head _) (DatAll.mono (fun p hp => .tail _ (List.mem_append_left nx hp)) hzs)) .nil)
      · rintro R hp tkp ys nx ⟨hcn, hDn, hys⟩ FP NP off
        have hys' : DatAll nx ys [.list (grams 2 x), .list (grams 2 y)] := hys
        cases hys' with
        | cons d1 r =>
          cases r with
          | cons d2 r =>
            cases r
            refine' Mid.mk ⟨_, _, _, _, AtK.mk FP NP ?_ ⟨.tail _ hcn, .head _, d1.mono (fun p hp => .tail _ hp), d2.mono (fun p hp => .tail _ hp)⟩⟩
            (repeat (first | exact List.forall_mem_nil _ | refine List.forall_mem_cons.mpr ⟨by with_unfolding_all rfl, ?_⟩))
    · refine execs_cutS (fun s s' => RowsAtL (frH F6) (frL F6) x y t1 t2 .three (frL F6 + 1, o) s s') ?_ (fun s' h => by rw [execs_nil]; exact wpAny_pure ⟨rfl, h⟩)
      w_strict k_steps
      refine execs_cutS (fun s s' => RowsAtL (frH F6) (frL F6) x y t1 t2 .three (frL F6 + 1, o) s s') ?_ (fun s' h => by rw [execs_nil]; exact wpAny_pure ⟨rfl, h⟩)
      refine rows_comp (cl := [(Str.ofString "q", frL F6 + 1)]) (its := #[.str x t1, .str y t2]) (fun i ys nx => (frL F6 + 1, o) ∈ nx ∧ (D, listOf #[.str x t1, .str y t2] nd) ∈ nx ∧ DatAll nx ys (([.list (grams 3 x), .list (grams 3 y)] : List Dat).take i)) F6 N6 rfl (by rfl) (by rfl) (fun _ => rfl) (fun _ => rfl) (by rfl) (by decide) (by rfl) (by rfl) (by rfl) (by intro _; rfl) (by rfl) ?_ (by rw [sizeLine_eq]; exact Nat.le_of_ble_eq_true rfl) ⟨.tail _ (.head _), .head _, .nil⟩ (fun i ys nx h => h.2.1) ?_ ?_
      · w_strict k_steps
        all_goals (first | exact F6 | exact N6)
      · rintro i v I oI C oC E2 K oK ys nx hp tkp E' hv ⟨hcn, hDn, hys⟩ hoK FP NP off hI1 hI2 hI3
        obtain ⟨z, tz, rfl, hz, hlz, htake⟩ : ∃ z tz, v = .str z tz ∧ ascii z = true ∧ z.length ≤ 6 ∧ ([.list (grams 3 x), .list (grams 3 y)] : List Dat).take (i + 1) = ([.list (grams 3 x), .list (grams 3 y)] : List Dat).take i ++ [.list (grams 3 z)] := by
          rcases i with _ | _ | i
          · exact ⟨x, t1, (Option.some.inj hv).symm, hx, hlx, rfl⟩
          · exact ⟨y, t2, (Option.some.inj hv).symm, hy, hly, rfl⟩
          · cases hv
        clear hv
        dsimp only
        have hcn4 : (frL F6 + 1, o) ∈ (I, oI) :: (C, oC) :: (E2, LCg.lst ys) :: (K, oK) :: nx := .tail _ (.tail _ (.tail _ (.tail _ hcn)))
        dsimp only [frL] at hcn hcn4 ⊢
        refine LCg.ListComp_U (cl := [(Str.ofString "text", K), (Str.ofString "q", frL F6 + 1)]) FP (by rfl) (by decide) (by rfl) (by decide) (by rfl) ?_
        dsimp only [frL, frH] at *
        clear F6 N6
        w_strict k_steps
        rename IsRange _ _ _ _ _ _ _ _ => RG
        rename Fr _ _ _ _ => FL
        rename News _ _ _ _ => NL
        refine LCg.CompSrc.range (by rfl) FL NL RG (rsmall_g3 hlz) (rsize_g3 hlz) (by rw [sizeLine_eq]; omega) ?_
        intro g
        refine comp_invN (fun n0 j zs nx1 => ∃ nw, nx1 = nw ++ n0 ∧ (∀ p ∈ nw, ∀ q ∈ n0, q.1 < p.1) ∧ DatAll nw zs (pieces 3 z j)) ?_ ?_ ⟨[], rfl, fun p hp => (nomatch hp), .nil⟩
        · rintro j v I2 oI2 C2 oC2 D2 m₂ zs nx1 h tk2 E2' hj ⟨tj, rfl⟩ ⟨nw, rfl, hlt, hzs⟩ hoC2 hx2 F2 N2 off2 ne2
          clear FL NL
          have hcn5 := List.Mem.tail (I2, oI2) (List.Mem.tail (C2, oC2) (List.Mem.tail (D2, LCg.lst zs) (List.mem_append_right nw hcn4)))
          have hcK5 : (K, oK) ∈ (I2, oI2) :: (C2, oC2) :: (D2, LCg.lst zs) :: (nw ++ (I, oI) :: (C, oC) :: (E2, LCg.lst ys) :: (K, oK) :: nx) := .tail _ (.tail _ (.tail _ (List.mem_append_right nw (.tail _ (.tail _ (.tail _ (.head _)))))))
          w_strict k_steps
          rename Fr _ _ _ _ => FL
          rename News _ _ _ _ => NL
          refine tuple_slice j 3 FL NL (by rfl) (by omega) hlz (by rw [Int.zero_add]; rfl) ?_
          intro T h9 tk9 vs9 F9 N9 lT aT
          clear FL NL
          w_strict k_steps
          refine compEnd_nw (nw := [(T, _)]) F9 N9 (fun p hp => by rw [List.mem_singleton.mp hp]; exact lT) off2 trivial ⟨(T, _) :: nw, rfl, fun p hp q hq => ?_, ?_⟩
          · rcases List.mem_cons.mp hp with rfl | hp
            · exact lT q (.tail _ (.tail _ (.tail _ (List.mem_append_right nw hq))))
            · exact hlt p hp q hq
          · rw [pieces_succ]
            exact PySem.W.DatAll.append (DatAll.mono (fun p hp => .tail _ hp) hzs) (.cons (.tuple (n := 0) (.head _) (strsAre_dat aT)) .nil)
        · rintro zs nx1 ⟨nw, rfl, hlt, hzs⟩
          clear FL NL
          intro D3 h3 tk3 F3 N3 hoff
          have h5 := off1_ne hoff
          refine ⟨h3, tk3, (D3, LCg.lst zs) :: nw ++ nx, rfl, F3, fun p hp => N3 p ?_, fun p hp => ?_, .tail _ (List.mem_append_right nw hcn), .tail _ (List.mem_append_right nw hDn), ?_⟩
          · simp only [List.cons_append, List.mem_cons, List.mem_append] at hp ⊢
            rcases hp with h | h | h | h | h | h | h <;> simp [h]
          · simp only [List.cons_append, List.mem_cons, List.mem_append] at hp
            rcases hp with rfl | hp | hp
            · exact ⟨Ne.symm (h5 _ (List.mem_append_right nw (.head _))), Ne.symm (h5 _ (List.mem_append_right nw (.tail _ (.head _)))), Ne.symm (h5 _ (List.mem_append_right nw (.tail _ (.tail _ (.head _))))), Ne.symm (h5 _ (List.mem_append_right nw (.tail _ (.tail _ (.tail _ (.head _))))))⟩
            · exact ⟨Nat.ne_of_gt (hlt p hp _ (.head _)), Nat.ne_of_gt (hlt p hp _ (.tail _ (.head _))), Nat.ne_of_gt (hlt p hp _ (.tail _ (.tail _ (.head _)))), Nat.ne_of_gt (hlt p hp _ (.tail _ (.tail _ (.tail _ (.head _)))))⟩
            · exact off p hp
          · rw [htake]
            exact PySem.W.DatAll.append (DatAll.mono (fun p hp => .tail _ (List.mem_append_right nw hp)) hys) (.cons (.list (n := zs.length) (.head _) (DatAll.mono (fun p hp => .tail _ (List.mem_append_left nx hp)) hzs)) .nil)
      · rintro R hp tkp ys nx ⟨hcn, hDn, hys⟩ FP NP off
        have hys' : DatAll nx ys [.list (grams 3 x), .list (grams 3 y)] := hys
        cases hys' with
        | cons d1 r =>
          cases r with
          | cons d2 r =>
            cases r
            refine' Mid.mk ⟨_, _, _, _, AtK.mk FP NP ?_ ⟨.tail _ hcn, .head _, d1.mono (fun p hp => .tail _ hp), d2.mono (fun p hp => .tail _ hp)⟩⟩
            (repeat (first | exact List.forall_mem_nil _ | refine List.forall_mem_cons.mpr ⟨by with_unfolding_all rfl, ?_⟩))
  rintro sA ⟨r, nr, v1, v2, m7, h7, tk7, nw7, rfl, F7, N7, hcm, hr, hv1, hv2⟩
  dsimp only [frH, frL, kstB] at F7 N7 hcm
  dsimp only
  clear F6 N6
  refine execs_cutS (fun s s' => ∃ sf dx g1 g2 g3 u1 u2 u3 tq' nd', AtK (frH F7) (frL F7) [("first", .str x t1), ("second", .str y t2), ("rows", .ref r), ("plain", .ref sf)] s (fun nw => (sf, instObj 189 dx) ∈ nw ∧ (dx, dictOf [⟨g1, .str (Str.ofString "qval") u1, qVal tq' q⟩, ⟨g2, .str (Str.ofString "test_func") u2, .ref 100⟩, ⟨g3, .str (Str.ofString "external") u3, .bool true⟩] nd') ∈ nw ∧ (r, listOf #[v1, v2] nr) ∈ nw ∧ DatIn nw v1 (rowD x q) ∧ DatIn nw v2 (rowD y q)) s') ?_ ?_
  · w_strict (repeat' ((fail_if_success (with_reducible show Mid _ _ _)); first | (k_unfold; (try dsimp only)) | (k_end; wrow_close) | walk1 | (dsimp only; walk1) | (leave1; walk_say "STEP leave1"; try dsimp only) | fail "no step"))
    dsimp only
    refine' Mid.mk ⟨_, _, _, _, _, _, _, _, _, _, AtK.mk (by assumption) (by assumption) ?_ ⟨.head _, .tail _ (.head _), .tail _ (.tail _ hr), hv1.mono (fun p hp => .tail _ (.tail _ hp)), hv2.mono (fun p hp => .tail _ (.tail _ hp))⟩⟩
    (repeat (first | exact List.forall_mem_nil _ | refine List.forall_mem_cons.mpr ⟨by with_unfolding_all rfl, ?_⟩))
  rintro sA ⟨sf, dx, g1, g2, g3, u1, u2, u3, tq', nd', m8, h8, tk8, nw8, rfl, F8, N8, hsf, hdx, hr8, hw1, hw2⟩
  dsimp only [frH, frL, kstB] at F8 N8
  dsimp only
  clear hr hv1 hv2 hcm F7 N7
  refine execs_cutS (fun s s' => ∃ nw', (∀ p ∈ nw8, p ∈ nw') ∧ AtK (frH F8) (frL F8) [("first", .str x t1), ("second", .str y t2), ("rows", .ref r), ("plain", .ref sf)] s (fun nw => nw = nw') s') ?_ ?_
  · dsimp only [frH, frL]
    w_strict k_steps
    rename Fr _ _ _ _ => FL
    rename News _ _ _ _ => NL
    refine' (gs_walk _ x y t1 t2 sf dx g1 g2 g3 u1 u2 u3 tq' q nd' hsf hdx hx hy hlx hly) _ _ _ _ _ _ _ _ _ _ _ _ _ _ _ _ _ BL FL KX NL TL ?kk ?hd ?hu ?_
    (case kk => exact rfl); (case hd => ktr_room); (case hu => ktr_units)
    intro v9 h9 tk9 n9 F9 N9 l9 hD9
    clear FL NL
    cases hD9 with
    | list m9 r9 =>
      have hDD : DatIn n9 (.ref _) (.list [rowD x q, rowD y q]) := .list m9 r9
      have hR : DatIn n9 (.ref r) (.list [rowD x q, rowD y q]) := .list (l9 _ hr8) (.cons (hw1.mono l9) (.cons (hw2.mono l9) .nil))
      w_strict k_steps
      refine ne_same N9 hDD hR (rows_ok hx hy q) (by ktr_units) ?_
      w_strict k_steps
      dsimp only
      refine' Mid.mk ⟨n9, l9, AtK.mk (by assumption) (by assumption) ?_ rfl⟩
      (repeat (first | exact List.forall_mem_nil _ | refine List.forall_mem_cons.mpr ⟨by with_unfolding_all rfl, ?_⟩))
  rintro sA ⟨nw9, hsub, m9, h9, tk9, _, rfl, F9, N9, rfl⟩
  dsimp only [frH, frL, kstB] at F9 N9
  dsimp only
  replace hsf := hsub _ hsf
  replace hdx := hsub _ hdx
  replace hr8 := hsub _ hr8
  replace hw1 := hw1.mono hsub
  replace hw2 := hw2.mono hsub
  clear hsub F8 N8
  refine execs_cutS (fun s s' => ∃ tf, AtK (frH F9) (frL F9) [("first", .str x t1), ("second", .str y t2), ("plain", .ref sf), ("far", .int (levD (itemsOf x q) (itemsOf y q)) tf)] s (fun nw => nw = neW N9) s') ?_ ?_
  · dsimp only [frH, frL, neW]
    w_strict k_steps
    rename Fr _ _ _ _ => FL
    rename News _ _ _ _ => NL
    refine' (far_walk _ _ _ _ _ (row_seq q hw1) (row_seq q hw2) (items_len hlx q) (items_len hly q) (items_ok hx q) (items_ok hy q)) _ _ _ _ _ _ _ _ _ _ _ _ _ _ _ _ _ BL FL KX NL TL ?kk ?hd ?hu ?_
    (case kk => exact rfl); (case hd => ktr_room); (case hu => ktr_units)
    intro t8 h8 tk8 F8 N8
    clear FL NL
    rw [far_lev]
    w_strict k_steps
    dsimp only
    refine' Mid.mk ⟨_, AtK.mk (by assumption) (by assumption) ?_ rfl⟩
    (all_goals (repeat (first | exact List.forall_mem_nil _ | refine List.forall_mem_cons.mpr ⟨by with_unfolding_all rfl, ?_⟩)))
  rintro sA ⟨tf, m10, h10, tk10, nwA, rfl, F10, N10, rfl⟩
  dsimp only [frH, frL, neW, kstB] at F10 N10
  dsimp only
  clear F9 N9
  refine execs_cutS (fun s s' => ∃ tm, AtK (frH F10) (frL F10) [("first", .str x t1), ("second", .str y t2), ("plain", .ref sf), ("far", .int (levD (itemsOf x q) (itemsOf y q)) tf), ("most", .int ((max x.length y.length : Nat) : Int) tm)] s (fun nw => nw = neW N10) s') ?_ ?_
  · dsimp only [frH, frL, neW]
    w_strict k_steps
    rename Fr _ _ _ _ => FL
    have hmx : (if (y.length : Int) > (x.length : Int) then (y.length : Int) else (x.length : Int)) = ((max x.length y.length : Nat) : Int) := by split <;> omega
    rw [hmx] at FL
    dsimp only
    refine' Mid.mk ⟨_, AtK.mk FL (by assumption) ?_ rfl⟩
    (all_goals (repeat (first | exact List.forall_mem_nil _ | refine List.forall_mem_cons.mpr ⟨by with_unfolding_all rfl, ?_⟩)))
  rintro sA ⟨tm, m11, h11, tk11, nwA, rfl, F11, N11, rfl⟩
  dsimp only [frH, frL, neW, kstB] at F11 N11
  dsimp only
  clear F10 N10
  have hKD : KtsDicts (([] : List Env).filterMap (·.frame)) (frH F11) := fun b hb => nomatch hb
  dsimp only [frH] at hKD
  refine execs_cutS (fun s s' => AtK (frH F11) (frL F11) [("first", .str x t1), ("second", .str y t2), ("plain", .ref sf), ("far", .int (levD (itemsOf x q) (itemsOf y q)) tf), ("most", .int ((max x.length y.length : Nat) : Int) tm)] s (fun nw => nw = neW N11) s') ?_ ?_
  · dsimp only [frH, frL, neW]
    w_strict k_steps
    rename Fr _ _ _ _ => FL
    rename News _ _ _ _ => NL
    refine' ((distance_code _ x y t1 t2 sf dx g1 g2 g3 u1 u2 u3 tq' q nd' hsf hdx hx hy hlx hly).toS) _ _ _ _ _ _ _ _ _ _ _ _ _ _ _ _ _ BL FL KX NL TL KX TL hKD ?kk ?hd ?hu ?_
    (case kk => exact rfl); (case hd => ktr_room); (case hu => ktr_units)
    intro t8 h8 tk8 g9 kT kB kF kX kN kP kD
    clear FL NL
    have FL := fr_back kT kF
    have NL := news_back kT kN
    clear kB kF kX kN kP kD kT
    try dsimp only
    w_strict k_steps
    · exact absurd rfl (by assumption)
    refine' (similarity_walk _ x y t1 t2 sf dx g1 g2 g3 u1 u2 u3 tq' q nd' hsf hdx hx hy hlx hly) _ _ _ _ _ _ _ _ _ _ _ _ _ _ _ _ _ BL FL KX NL TL KX TL hKD ?kk ?hd ?hu ?_
    (case kk => exact rfl); (case hd => ktr_room); (case hu => ktr_units)
    clear FL NL
    intro t8 h8 tk8 g9 kT kB kF kX kN kP kD
    have FL := fr_back kT kF
    have NL := news_back kT kN
    clear kB kF kX kN kP kD kT
    try dsimp only
    w_strict k_steps
    · exact absurd rfl (by assumption)
    try dsimp only
    refine' Mid.mk (AtK.mk FL NL ?_ rfl)
    (repeat (first | exact List.forall_mem_nil _ | refine List.forall_mem_cons.mpr ⟨by with_unfolding_all rfl, ?_⟩))
  rintro sA ⟨m12, h12, tk12, nwA, rfl, F12, N12, rfl⟩
  dsimp only [frH, frL, neW, kstB] at F12 N12
  dsimp only
  clear F11 N11
  refine execs_cutS (fun s s' => AtK (frH F12) (frL F12) [("first", .str x t1), ("second", .str y t2), ("plain", .ref sf), ("far", .int (levD (itemsOf x q) (itemsOf y q)) tf), ("most", .int ((max x.length y.length : Nat) : Int) tm)] s (fun nw => nw = neW N12) s') ?_ ?_
  · dsimp only [frH, frL, neW]
    w_strict (repeat' ((fail_if_success (with_reducible show wpAny _ _ (getMethod (Value.ref _) _ _) _ _ _)); first | (k_unfold; (try dsimp only)) | walk1 | (dsimp only; walk1)))
    refine' meth_sm F12 KX ?k3 ?k4 ?k5 ?k6 ?_
    (case k3 => k_inst); (case k4 => k_is); (case k5 => k_is); (case k6 => k_is)
    w_strict k_steps
    rename Fr _ _ _ _ => FL
    rename News _ _ _ _ => NL
    refine' (maximum_walk _ _ _ _ _ (seqs_str x t1) (seqs_str y t2) (by rw [signs_length]; exact hlx) (by rw [signs_length]; exact hly)) _ _ _ _ _ _ _ _ _ _ _ _ _ _ _ _ _ BL FL KX NL TL ?kk ?hd ?hu ?_
    (case kk => exact rfl); (case hd => ktr_room); (case hu => ktr_units)
    intro t8 h8 tk8 F8 N8
    clear FL NL
    rw [signs_length, signs_length]
    w_strict k_steps
    · exact absurd rfl (by assumption)
    try dsimp only
    refine' Mid.mk (AtK.mk (by assumption) (by assumption) ?_ rfl)
    (repeat (first | exact List.forall_mem_nil _ | refine List.forall_mem_cons.mpr ⟨by with_unfolding_all rfl, ?_⟩))
  rintro sA ⟨m13, h13, tk13, nwA, rfl, F13, N13, rfl⟩
  dsimp only [frH, frL, neW, kstB] at F13 N13
  dsimp only
  clear F12 N12
  refine execs_cutS (fun s s' => ∃ tp tr, AtK (frH F13) (frL F13) [("far", .int (levD (itemsOf x q) (itemsOf y q)) tf), ("most", .int ((max x.length y.length : Nat) : Int) tm), ("part", partV (levD (itemsOf x q) (itemsOf y q)) (max x.length y.length) tp), ("rest", restV (levD (itemsOf x q) (itemsOf y q)) (max x.length y.length) tr)] s (fun nw => nw = neW N13) s') ?_ ?_
  · dsimp only [frH, frL, neW]
    w_strict k_steps
    rename Fr _ _ _ _ => FL
    rename News _ _ _ _ => NL
    refine' ((nd_code _ x y t1 t2 sf dx g1 g2 g3 u1 u2 u3 tq' q nd' hsf hdx hx hy hlx hly).toS) _ _ _ _ _ _ _ _ _ _ _ _ _ _ _ _ _ BL FL KX NL TL KX TL hKD ?kk ?hd ?hu ?_
    (case kk => exact rfl); (case hd => ktr_room); (case hu => ktr_units)
    clear FL NL
    intro t8 h8 tk8 g9 kT kB kF kX kN kP kD
    have FL := fr_back kT kF
    have NL := news_back kT kN
    clear kB kF kX kN kP kD kT
    try dsimp only
    w_strict k_steps
    rename Fr _ _ _ _ => FL
    rename News _ _ _ _ => NL
    refine' (ns_walk _ x y t1 t2 sf dx g1 g2 g3 u1 u2 u3 tq' q nd' hsf hdx hx hy hlx hly) _ _ _ _ _ _ _ _ _ _ _ _ _ _ _ _ _ BL FL KX NL TL KX TL hKD ?kk ?hd ?hu ?_
    (case kk => exact rfl); (case hd => ktr_room); (case hu => ktr_units)
    clear FL NL
    intro t7 h7 tk7 g7 kT kB kF kX kN kP kD
    have FL := fr_back kT kF
    have NL := news_back kT kN
    clear kB kF kX kN kP kD kT
    try dsimp only
    w_strict k_steps
    try dsimp only
    refine' Mid.mk ⟨_, _, AtK.mk (by assumption) (PyProof.Rows.News.tail' (by assumption)) ?_ rfl⟩
    (all_goals (repeat (first | exact List.forall_mem_nil _ | refine List.forall_mem_cons.mpr ⟨by with_unfolding_all rfl, ?_⟩)))
  rintro sA ⟨tp, tr, m14, h14, tk14, nwA, rfl, F14, N14, rfl⟩
  dsimp only [frH, frL, neW, kstB] at F14 N14
  dsimp only
  clear F13 N13
  obtain ⟨n, hn, hnm⟩ := lev_nat x y q
  rw [hn] at F14
  have hmx6 : max x.length y.length ≤ 6 := by omega
  generalize hme : max x.length y.length = mx at *
  by_cases hz : mx = 0
  · have ep : partV (n : Int) mx tp = .int 0 tp := if_pos hz
    have er : restV (n : Int) mx tr = .int 1 tr := if_pos hz
    rw [ep, er] at F14
    subst hz
    w_strict (repeat' ((fail_if_success (with_reducible show wpAny _ _ (call (Value.ref _) _) _ _ _)); first | (k_unfold; (try dsimp only)) | (k_end; wrow_close) | walk1 | (dsimp only; walk1) | (leave1; walk_say "STEP leave1"; try dsimp only) | fail "no step"))
  · have ep : partV (n : Int) mx tp = .float (Float64.ofFrac false n mx) tp := if_neg hz
    have er : restV (n : Int) mx tr = .float (Float64.sub (Float64.ofInt 1) (Float64.ofFrac false n mx)) tr := if_neg hz
    rw [ep, er] at F14
    have e2 : ((mx : Nat) : Int) - (n : Int) = ((mx - n : Nat) : Int) := by omega
    w_strict (repeat' ((fail_if_success (with_reducible show wpAny _ _ (call (Value.ref _) _) _ _ _)); first | (k_unfold; (try dsimp only)) | (k_end; wrow_close) | walk1 | (dsimp only; walk1) | (leave1; walk_say "STEP leave1"; try dsimp only) | fail "no step"))
    rename Fr _ _ _ _ => FL
    rename News _ _ _ _ => NL
    refine' (near_walk _ _ mx n _ _ _ hmx6 (by omega)) _ _ _ _ _ _ _ _ _ _ _ _ _ _ _ _ _ BL FL KX NL TL ?kk ?hd ?hu ?_
    (case kk => exact rfl); (case hd => ktr_room); (case hu => ktr_units)
    intro t8 h8 tk8 F8 N8
    clear FL NL
    rw [near_part n mx hnm hmx6 hz]
    w_strict (repeat' ((fail_if_success (with_reducible show wpAny _ _ (call (Value.ref _) _) _ _ _)); first | (k_unfold; (try dsimp only)) | (k_end; wrow_close) | walk1 | (dsimp only; walk1) | (leave1; walk_say "STEP leave1"; try dsimp only) | fail "no step"))
    rename Fr _ _ _ _ => FL
    rename News _ _ _ _ => NL
    rw [e2]
    refine' (near_walk _ _ mx (mx - n) _ _ _ hmx6 (by omega)) _ _ _ _ _ _ _ _ _ _ _ _ _ _ _ _ _ BL FL KX NL TL ?kk ?hd ?hu ?_
    (case kk => exact rfl); (case hd => ktr_room); (case hu => ktr_units)
    intro t8 h8 tk8 F8 N8
    clear FL NL
    rw [near_rest n mx hnm hmx6 hz]
    w_strict (repeat' ((fail_if_success (with_reducible show wpAny _ _ (call (Value.ref _) _) _ _ _)); first | (k_unfold; (try dsimp only)) | (k_end; wrow_close) | walk1 | (dsimp only; walk1) | (leave1; walk_say "STEP leave1"; try dsimp only) | fail "no step")))
end Mine
end
local macro_rules | `(tactic| walk_at "blank 30") => `(tactic| fail "blank")
local macro_rules | `(tactic| walk_at "blank 31") => `(tactic| fail "blank")
local macro_rules | `(tactic| walk_at "blank 32") => `(tactic| fail "blank")
set_option maxRecDepth 100000 in
set_option maxHeartbeats 8000000 in
theorem PySem.Challenge.cw_fq5035_01_holds : PySem.Challenge.rw_fq5035_01.Holds := by
  exact Mine.lawProved
