import PyProof.Rows.All
import Wide.All
import OpenK.AllK
import Wide.FinOn
import KE.KNestM
import PySem.Challenge.RW_dr0138_06
set_option Elab.async false
set_option bootstrap.genMatcherCode false
set_option genSizeOf false
set_option genInjectivity false
set_option linter.all false
section
open PySem PySem.W PyProof.Rows
namespace Mine
theorem noS {α : Type} {v : α} {P : Prop} (h : none = some v) : P := nomatch h
theorem noB {P : Prop} (h : false = true) : P := nomatch h
section
variable {prog : Program} {w : World} {A : Around} {E : Value → Shared → Prop} {s : Shared}

theorem wiT {α : Type} {M : Model} {c : Prop} [Decidable c] {x y : Sem α} {Q : α → Shared → Prop} (hc : c) (h : wpAny M A x Q E s) : wpAny M A (if c then x else y) Q E s := by rw [if_pos hc]; exact h
theorem wiF {α : Type} {M : Model} {c : Prop} [Decidable c] {x y : Sem α} {Q : α → Shared → Prop} (hc : ¬ c) (h : wpAny M A y Q E s) : wpAny M A (if c then x else y) Q E s := by rw [if_neg hc]; exact h

abbrev byText (w : World) : Prop := w.params.followText "set-order" = true
/-- a set of strs that may be walked -/
structure SetX (prog : Program) (w : World) (h : Heap) (a : Addr) (S : Str → Bool) (n : Nat) : Prop where
  set : h.SetOf (PySem.strKind prog w) a S n
  tab : ∃ o es ep t, h.get? a = some o ∧ o.data = .set es ep t ∧ (t.led = true ∨ byText w) ∧ (es.size = 0 ∨ t.plain = false) ∧ (es.size ≤ 1 → t.dummies.size = 0 ∧ 7 ≤ t.mask)

theorem relay_plain (t : SetTable) (es : Array (Int × Value)) (n : Nat) : (relayAll t es n).2.1.plain = true → t.plain = true := by
  unfold relayAll
  split
  · rename_i t' order e
    dsimp only
    split
    · intro h
      unfold SetTable.relaid SetTable.laid at e
      simp only [Option.bind_eq_bind, Option.bind_eq_some_iff, Option.pure_def, Option.some.injEq, Prod.mk.injEq] at e
      obtain ⟨_, _, rfl, _⟩ := e
      exact h
    · intro h; exact absurd h (by simp [SetTable.standIn])
  · intro h; exact absurd h (by simp [SetTable.standIn])
theorem relay_led (t : SetTable) (es : Array (Int × Value)) (n : Nat) : (relayAll t es n).2.1.led = t.led := by
  unfold relayAll
  split
  · rename_i t' order e
    dsimp only
    split
    · unfold SetTable.relaid SetTable.laid at e
      simp only [Option.bind_eq_bind, Option.bind_eq_some_iff, Option.pure_def, Option.some.injEq, Prod.mk.injEq] at e
      obtain ⟨_, _, rfl, _⟩ := e
      rfl
    · rfl
  · rfl
theorem layNew_led (t : SetTable) (es : Array (Int × Value)) (h : Int) (x : Value) : (layNew t es h x).2.1.led = t.led := by
  unfold layNew
  split
  · dsimp only [SetTable.orStandIn]
    split <;> rfl
  · rfl

theorem layNew_small (t : SetTable) (h : Int) (x : Value) (hd : t.dummies.size = 0) (hm : 7 ≤ t.mask) : (layNew t #[] h x).2.1.dummies.size = 0 ∧ 7 ≤ (layNew t #[] h x).2.1.mask := by
  obtain ⟨l, e⟩ : ∃ l, t.dummies = ⟨l⟩ := ⟨t.dummies.toList, by simp⟩
  have hl : l = [] := by rw [e] at hd; simpa using hd
  subst hl
  unfold layNew
  split
  · dsimp only [SetTable.orStandIn]
    split
    · simp only [SetTable.put]
      split <;> simp_all [SetTable.eraseAt]
    · simp [SetTable.standIn, SetTable.insertAt]
  · simp [SetTable.standIn]

theorem addTailX {g : Bool → Sem Unit} (hg : ∀ (b : Bool) (s₁ : Shared) (Q' : Unit → Shared → Prop), Q' () s₁ → wpAny (model prog w) A (g b) Q' E s₁)
    {a : Addr} {o : Obj} {es : Array (Int × Value)} {ep : Nat} {t : SetTable} (ho : s.heap.get? a = some o) (hex : o.ExactSet) (hd : o.data = .set es ep t)
    {es1 : Array (Int × Value)} {t2 : SetTable} {S' : Str → Bool} (hel1 : ElemsOf (PySem.strKind prog w) es1.toList) (hmem1 : ∀ k', S' k' = true ↔ ∃ e ∈ es1.toList, (PySem.strKind prog w).is k' e.2 = true)
    (hb1 : es1.size < scanBound) (hf2 : t2.fits es1.size = true) (hp2 : t2.plain = false) (hl2 : t2.led = true ∨ byText w) (hs2 : es1.size ≤ 1 → t2.dummies.size = 0 ∧ 7 ≤ t2.mask) {wasDummy : Bool} {R : Option Bool → Shared → Prop}
    (h : ∀ h', Heap.SameBut a s.heap h' → SetX prog w h' a S' es1.size → R (some true) { s with heap := h' }) :
    wpAny (model prog w) A (do
        storeSet a es1 t2
        if (!wasDummy && t2.tooFull) = true then do
            g (relayAll t2 es1 (SetTable.grown es1.size)).2.2
            storeSet a (relayAll t2 es1 (SetTable.grown es1.size)).1 (relayAll t2 es1 (SetTable.grown es1.size)).2.1
            pure (some true)
          else pure (some true)) R E s := by
  refine wpAny_bind (wpAny_storeSet_of ho hd ?_ (fits_of_scanBound hb1))
  obtain ⟨ho1, hS1⟩ := SetOf_store (knd := PySem.strKind prog w) ho hex hd hel1 hmem1 hb1 hf2
  have hsb1 := Heap.SameBut.update s.heap a (Obj.putSet es1 t2)
  split
  · rename_i hfull
    have h1 : ¬ es1.size ≤ 1 := fun hle => by
      obtain ⟨q1, q2⟩ := hs2 hle
      simp only [SetTable.fits, Bool.and_eq_true, beq_iff_eq] at hf2
      obtain ⟨_, hfull⟩ := Bool.and_eq_true_iff.mp hfull
      have hfull : t2.fill * 5 ≥ t2.mask * 3 := by simpa [SetTable.tooFull] using hfull
      unfold SetTable.fill at hfull
      lia
    have hp := relayAll_perm t2 es1 (SetTable.grown es1.size)
    have hfr := relayAll_fits t2 es1 (SetTable.grown es1.size)
    have hpl := relay_plain t2 es1 (SetTable.grown es1.size)
    have hld := relay_led t2 es1 (SetTable.grown es1.size)
    generalize hRl : relayAll t2 es1 (SetTable.grown es1.size) = Rl at hp hfr hpl hld ⊢
    obtain ⟨es2, t3, gave2⟩ := Rl
    dsimp only at hp hfr hpl hld ⊢
    have hel2 : ElemsOf (PySem.strKind prog w) es2.toList := hel1.perm hp
    have hmem2 : ∀ k', S' k' = true ↔ ∃ e ∈ es2.toList, (PySem.strKind prog w).is k' e.2 = true := fun k' => (hmem1 k').trans ⟨fun ⟨e, he, q⟩ => ⟨e, hp.mem_iff.mpr he, q⟩, fun ⟨e, he, q⟩ => ⟨e, hp.mem_iff.mp he, q⟩⟩
    have hsz : es2.size = es1.size := by rw [← Array.length_toList, hp.length_eq, Array.length_toList]
    have hb2 : es2.size < scanBound := by rw [hsz]; exact hb1
    refine wpAny_bind (hg _ _ _ ?_)
    refine wpAny_bind (wpAny_storeSet_of ho1 rfl ?_ (fits_of_scanBound hb2))
    obtain ⟨ho2, hS2⟩ := SetOf_store (knd := PySem.strKind prog w) ho1 hex rfl hel2 hmem2 hb2 hfr
    rw [hsz] at hS2
    refine wpAny_pure (h _ (hsb1.trans (Heap.SameBut.update _ a _)) ⟨hS2, _, _, _, _, ho2, rfl, by rw [hld]; exact hl2, .inr ?_, fun hle => absurd (hsz ▸ hle) h1⟩)
    cases hq : t3.plain with
    | false => rfl
    | true => rw [hpl hq] at hp2; cases hp2
  · exact wpAny_pure (h _ hsb1 ⟨hS1, _, _, _, _, ho1, rfl, hl2, .inr hp2, hs2⟩)

theorem setAddX {a : Addr} {S : Str → Bool} {n : Nat} {k : Str} {u : Tok} {Q : Bool → Shared → Prop} (hX : SetX prog w s.heap a S n) (hroom : n + 1 < scanBound)
    (h : ∀ h', Heap.SameBut a s.heap h' → SetX prog w h' a (fun k' => S k' || decide (k' = k)) (if S k then n else n + 1) → Q (!S k) { s with heap := h' }) :
    wpAny (model prog w) A (setAddHashed a (.str k u) ((PySem.strKind prog w).hash k)) Q E s := by
  have hkey : (PySem.strKind prog w).is k (.str k u) = true := strKind_is _ _ _ _
  have hsc : (Value.str k u).scannable = true := rfl
  obtain ⟨⟨o, es, ep, t, ho, hex, hd, hel, hmem, hb, hf, hn⟩, o', es', ep', t', ho', hd', hl, hp, hsm⟩ := hX
  rw [ho] at ho'; cases ho'
  rw [hd] at hd'; cases hd'
  have hb1 : es.size + 1 < scanBound := by rw [hn]; exact hroom
  unfold setAddHashed setAddHashedIn
  refine wpAny_holding (wpAny_bind (wpAny_setState_of ho hd hf ?_))
  dsimp only
  rw [byScan_of hsc hb hel]
  simp only [↓reduceIte]
  unfold setAddByScan
  refine wpAny_bind ?_
  refine wpAny_bind (wpAny_rule ?_)
  refine wpAny_bind (wpAny_setScan_of hkey ho hd hf hel ?_)
  cases hr : List.findIdx? (fun e => (PySem.strKind prog w).is k e.2) es.toList with
  | some j =>
    dsimp only
    obtain ⟨hj, hpj, _⟩ := List.findIdx?_eq_some_iff_getElem.mp hr
    have hSk : S k = true := (hmem k).mpr ⟨es.toList[j], List.getElem_mem hj, hpj⟩
    refine wpAny_pure (wpAny_pure ?_)
    have e : s = { s with heap := s.heap } := by cases s; rfl
    have := h s.heap (Heap.SameBut.refl a s.heap) ⟨⟨o, es, ep, t, ho, hex, hd, hel, fun k' => by
      rw [Bool.or_eq_true, decide_eq_true_eq, ← hmem k']
      exact ⟨fun hk => hk.elim id (fun e => e ▸ hSk), .inl⟩, hb, hf, by rw [hSk]; exact hn⟩, o, es, ep, t, ho, hd, hl, hp, hsm⟩
    rw [hSk] at this; rw [e]; exact this
  | none =>
    dsimp only
    have hSk : S k = false := by
      cases hk : S k with
      | false => rfl
      | true => obtain ⟨e, he, hp⟩ := (hmem k).mp hk; have := List.findIdx?_eq_none_iff.mp hr e he; rw [hp] at this; exact Bool.noConfusion this
    have hgw : ∀ (b : Bool) {s₁ : Shared} {Q' : Unit → Shared → Prop}, Q' () s₁ → wpAny (model prog w) A (match b with | true => rule "set.scan.the-table-gave-way" | false => pure ()) Q' E s₁ :=
      fun b s₁ Q' hq => by cases b <;> first | exact wpAny_pure hq | exact wpAny_rule hq
    have hperm := layNew_perm t es ((PySem.strKind prog w).hash k) (.str k u)
    have hfits := layNew_fits t es ((PySem.strKind prog w).hash k) (.str k u)
    have hsmall : (layNew t es ((PySem.strKind prog w).hash k) (.str k u)).1.size ≤ 1 → (layNew t es ((PySem.strKind prog w).hash k) (.str k u)).2.1.dummies.size = 0 ∧ 7 ≤ (layNew t es ((PySem.strKind prog w).hash k) (.str k u)).2.1.mask := fun hle => by
      have hz : es.size = 0 := by
        have := hperm.length_eq
        simp only [Array.length_toList, Array.toList_push, List.length_append, List.length_singleton] at this
        lia
      obtain ⟨l, e⟩ : ∃ l, es = ⟨l⟩ := ⟨es.toList, by simp⟩
      have hl : l = [] := by rw [e] at hz; simpa using hz
      subst hl; subst e
      obtain ⟨q1, q2⟩ := hsm (by simp)
      exact layNew_small t _ _ q1 q2
    have hled := layNew_led t es ((PySem.strKind prog w).hash k) (.str k u)
    generalize hL : layNew t es ((PySem.strKind prog w).hash k) (.str k u) = L at hperm hfits hled hsmall ⊢
    obtain ⟨es1, t1, wasDummy, gave⟩ := L
    dsimp only at hperm hfits hled hsmall ⊢
    rw [Array.toList_push] at hperm
    have hel1 : ElemsOf (PySem.strKind prog w) es1.toList := (hel.push hkey hsc).perm hperm
    have hmem1 : ∀ k', (S k' || decide (k' = k)) = true ↔ ∃ e ∈ es1.toList, (PySem.strKind prog w).is k' e.2 = true := mem_push_iff hkey hmem hperm
    have hb1' : es1.size < scanBound := by rw [← Array.length_toList, hperm.length_eq, List.length_append, Array.length_toList]; simpa using hb1
    refine wpAny_bind (hgw _ ?_)
    have hsz1 : es1.size = n + 1 := by rw [← Array.length_toList, hperm.length_eq, List.length_append, Array.length_toList, hn]; rfl
    have hend : ∀ h', Heap.SameBut a s.heap h' → SetX prog w h' a (fun k' => S k' || decide (k' = k)) es1.size → Q true { s with heap := h' } := by
      intro h' hsb hS'; have := h h' hsb; rw [hSk] at this; rw [hsz1] at hS'; exact this hS'
    split
    · refine wpAny_bind ?_
      rw [hashByValue_scannable 8 hsc]
      refine wpAny_pure ?_
      refine addTailX ?_ ho hex hd hel1 hmem1 hb1' ?_ ?_ ?_ ?_ ?_
      · intro b s₁ Q' hq; cases b <;> first | exact wpAny_pure hq | exact wpAny_rule hq
      · split
        · exact hfits
        · exact SetTable.fits_plain_off hfits
      · rfl
      · show t1.led = true ∨ _; rw [hled]; exact hl
      · exact hsmall
      · intro h' hsb hS'; dsimp only; exact wpAny_pure (hend h' hsb hS')
    · rename_i hpl
      refine wpAny_bind (wpAny_pure ?_)
      simp only [↓reduceIte]
      refine addTailX ?_ ho hex hd hel1 hmem1 hb1' hfits (by simpa using hpl) (by rw [hled]; exact hl) hsmall ?_
      · intro b s₁ Q' hq; cases b <;> first | exact wpAny_pure hq | exact wpAny_rule hq
      · intro h' hsb hS'; dsimp only; exact wpAny_pure (hend h' hsb hS')

theorem newSetX {Q : Value → Shared → Prop}
    (h : ∀ h' : Heap, (∀ b o, s.heap.get? b = some o → h'.get? b = some o) → SetX prog w h' s.heap.objs.size (fun _ => false) 0 → h'.objs.size = s.heap.objs.size + 1 → Q (.ref s.heap.objs.size) { s with heap := h' }) :
    wpAny (model prog w) A (newSet (.type "set")) Q E s := by
  unfold newSet setsByText
  refine wpAny_bind (wpAny_bind (wpAny_askSetting (wpAny_pure ?_)))
  dsimp only
  simp only [newObj]
  refine wpAny_bind (wpAny_alloc (wpAny_pure (h _ (fun _ _ e => Heap.get?_push_of_some _ e) ⟨⟨_, #[], 0, _, Heap.get?_push_size _ rfl, ⟨rfl, rfl, rfl⟩, rfl, fun e he => by simp at he, fun k => by simp, by decide, by rfl, rfl⟩,
    _, _, _, _, Heap.get?_push_size _ rfl, rfl, ?_, .inl rfl, fun _ => ⟨rfl, Nat.le_refl 7⟩⟩ (by rw [Heap.size_push]))))
  cases hb : w.params.followText "set-order" with
  | true => exact .inr hb
  | false => left; show (!_) = true; simp [SetTable.fresh, model, hb]
end
end Mine
end
section
open PySem PySem.W PyProof.Rows
namespace Mine

theorem slot_setit_next : Slot "set_iterator" "__next__" "set_iterator.__next__" :=
  .of (owner := "set_iterator") (n := "__next__") (by rw [typeLookup_type, builtinLookup_eq_fast]; kernel_rfl) (by decide +kernel) (by decide +kernel) (by decide +kernel)
    (by first | exact .inl (by decide +kernel) | exact .inr (by decide +kernel)) (by rw [isSubtype_type]; kernel_rfl)
theorem entry_setit_next : entryFor table "set_iterator.__next__" = some Builtin.«set_iterator.__next__» := entryFor_of_tree (by kernel_rfl)
theorem args_setit_next (a : Value) : argsOk "set_iterator.__next__" ⟨[a], []⟩ := by unfold argsOk; kernel_rfl
theorem entry_set_iter : entryFor table "set.__iter__" = some Builtin.«frozenset.__iter__» :=
  entryFor_alias (id' := "frozenset.__iter__") (by kernel_rfl) rfl (by decide +kernel) (by kernel_rfl)
theorem setit_lookup : typeLookup (.type "set_iterator") "__next__" = pure (some (.builtin "set_iterator.__next__")) := slot_setit_next.lookup

theorem wpAny_choose {M : Model} {A : Around} {E : Value → Shared → Prop} {s : Shared} {src : Source} {n : Nat} {Q : Nat → Shared → Prop} (hn : n ≠ 0) (h : ∀ i d, i < n → Q i { s with drawn := d }) : wpAny M A (choose src n) Q E s := by
  intro Γ p hΓ
  show Sem.wp M Γ (.choose src n .pure) _ _ p s
  rw [Sem.wp_choose]
  exact ⟨hn, by rw [Sem.wp_pure]; exact h _ _ (Nat.mod_lt _ (Nat.pos_of_ne_zero hn))⟩

theorem eraseIdx_perm {α : Type} (l : List α) : ∀ (i : Nat) (x : α) (_ : l[i]? = some x), (x :: l.eraseIdx i).Perm l := by
  induction l with
  | nil => exact fun i x h => noS h
  | cons y r ih =>
    intro i x h
    cases i with
    | zero => exact Option.some.inj h ▸ .refl _
    | succ i => exact (List.Perm.swap _ _ _).trans ((ih i x h).cons y)

theorem wpAny_drawOrder {α : Type} {M : Model} {A : Around} {E : Value → Shared → Prop} (n : Nat) : ∀ (xs : List α) {s : Shared} {Q : List α → Shared → Prop}, xs.length = n → (∀ ys d, ys.Perm xs → Q ys { s with drawn := d }) → wpAny M A (drawOrder n xs) Q E s := by
  induction n with
  | zero =>
    intro xs s Q hl h
    obtain rfl := List.length_eq_zero_iff.mp hl
    exact wpAny_pure (h [] s.drawn (.refl _))
  | succ n ih =>
    intro xs s Q hl h
    cases xs with
    | nil => exact Nat.noConfusion hl
    | cons x xs =>
      refine wpAny_bind (wpAny_choose (Nat.succ_ne_zero xs.length) fun i d hi => ?_)
      have hy : (x :: xs)[i]? = some (x :: xs)[i] := List.getElem?_eq_getElem hi
      rw [hy]
      exact wpAny_bind (ih ((x :: xs).eraseIdx i) (by rw [List.length_eraseIdx_of_lt hi, hl]; rfl) fun ys d' hys => wpAny_pure (h _ d' ((hys.cons _).trans (eraseIdx_perm _ i _ hy))))

theorem pick_go {α : Type} (next : Nat → Nat) (f : Nat) : ∀ (k : Nat) (left : List α) (out : Array α), left.length = f → (pickOrder.go next f k left out).toList.Perm (out.toList ++ left) := by
  induction f with
  | zero =>
    intro k left out hl
    obtain rfl := List.length_eq_zero_iff.mp hl
    rw [List.append_nil]; exact .refl _
  | succ f ih =>
    intro k left out hl
    have hi : next k % left.length < left.length := Nat.mod_lt _ (by rw [hl]; exact Nat.succ_pos f)
    show (match left[next k % left.length]? with | some x => pickOrder.go next f (k + 1) (left.eraseIdx (next k % left.length)) (out.push x) | none => out).toList.Perm _
    rw [List.getElem?_eq_getElem hi]
    refine (ih (k + 1) _ _ (by rw [List.length_eraseIdx_of_lt hi, hl]; rfl)).trans ?_
    rw [Array.toList_push, List.append_assoc]
    exact List.Perm.append_left _ (eraseIdx_perm left _ _ (List.getElem?_eq_getElem hi))
theorem pick_perm {α : Type} (next : Nat → Nat) (xs : Array α) : (pickOrder next xs).toList.Perm xs.toList := by
  exact pick_go next xs.size 0 xs.toList #[] rfl

section
variable {prog : Program} {w : World} {A : Around} {E : Value → Shared → Prop} {s : Shared}

/-- how a walk of a set stands -/
noncomputable def SetIt (w : World) (h : Heap) (it a : Addr) (es : Array (Int × Value)) (ep : Nat) (t : SetTable) (wk : List Value) (i : Nat) : Prop :=
  ∃ first, h.get? it = some { cls := .type "set_iterator", data := .fields #[first, rawInt i, .ref a, rawInt es.size, rawInt ep] } ∧
    ((byText w ∧ (∃ z : Int, first = rawInt z) ∧ wk = (pickOrder (w.params.setOrder a ep) es).toList.map (·.2)) ∨
     (¬ byText w ∧ ∃ (tp : Addr) (ps : List Nat) (k : Nat), first = .ref tp ∧ tp ≠ it ∧ h.get? tp = some { cls := .type "tuple", data := .seq (ps.map fun j : Nat => rawInt j).toArray k } ∧ wk = ps.map (fun j => (es.getD j (0, .none)).2) ∧ ∀ j ∈ ps, j < es.size) ∨
     (¬ byText w ∧ es.size ≤ 1 ∧ t.led = true ∧ wk = es.toList.map (·.2) ∧ ∃ z : Nat, first = rawInt z ∧ SetTable.below t.place z = i))

theorem below_one {p j : Nat} : SetTable.below #[p] j = if p < j then 1 else 0 := by kernel_rfl
theorem below_zero1 {p : Nat} : SetTable.below #[p] 0 = 0 := below_one.trans (if_neg (Nat.not_lt_zero p))
theorem below_next1 {p : Nat} : SetTable.below #[p] (p + 1) = 1 := below_one.trans (if_pos (Nat.lt_succ_self p))
theorem below_nil {j : Nat} : SetTable.below #[] j = 0 := rfl

theorem s_setDrawn {a : Addr} {o : Obj} {es : Array (Int × Value)} {ep : Nat} {t : SetTable} {Q : Bool → Shared → Prop} (ho : s.heap.get? a = some o) (hd : o.data = .set es ep t) (hf : t.fits es.size = true)
    (h : Q (!w.params.followText "set-order" && (!t.plain && decide (es.size > 1))) s) : wpAny (model prog w) A (setDrawn a) Q E s := by
  unfold setDrawn setsByText
  refine wpAny_bind (wpAny_setState_of ho hd hf ?_)
  refine wpAny_bind (wpAny_bind (wpAny_askSetting (wpAny_pure ?_)))
  refine wpAny_pure ?_
  exact h
end
end Mine
end
section
open PySem PySem.W PyProof.Rows
namespace Mine
section
variable {prog : Program} {w : World} {A : Around} {E : Value → Shared → Prop} {s : Shared} {a : Addr} {o : Obj} {es : Array (Int × Value)} {ep : Nat} {t : SetTable}

structure SetO (h : Heap) (a : Addr) (es : Array (Int × Value)) (ep : Nat) (t : SetTable) : Prop where
  ob : ∃ o, h.get? a = some o ∧ o.cls = .type "set" ∧ o.data = .set es ep t
  fits : t.fits es.size = true

theorem SetO.at' {h h' : Heap} (x : SetO h a es ep t) (e : ∀ o, h.get? a = some o → h'.get? a = some o) : SetO h' a es ep t :=
  let ⟨⟨o, e1, e2⟩, f⟩ := x; ⟨⟨o, e o e1, e2⟩, f⟩

theorem wpAny_newTupleN {M : Model} {l : List Value} {Q : Value → Shared → Prop} (h : Q (.ref s.heap.objs.size) { s with heap := s.heap.push { cls := .type "tuple", data := .seq l.toArray } }) (hl : l.length ≤ sizeLine) : wpAny M A (newTuple l) Q E s :=
  wpAny_newTuple h hl

theorem s_pyIter_set {Q : Value → Shared → Prop} (X : SetO s.heap a es ep t) (hl : t.led = true ∨ byText w) (hp : es.size = 0 ∨ t.plain = false) (hb : es.size < scanBound)
    (hQ : ∀ it wk s', wk.Perm (es.toList.map (·.2)) → (∀ b o, s.heap.get? b = some o → s'.heap.get? b = some o) → s.heap.objs.size ≤ it → SetIt w s'.heap it a es ep t wk 0 → s'.os = s.os → s'.gens = s.gens → Q (.ref it) s') :
    wpAny (model prog w) A (pyIter (.ref a)) Q E s := by
  obtain ⟨⟨o, ho, hc, hd⟩, hf⟩ := id X
  have hT : s.TypeIs (.ref a) "set" := ⟨o, ho, hc⟩
  refine wpAny_pyIter_slot hT F.slot_set_iter (wpAny_call_entry F.slot_set_iter hT entry_set_iter ?_ (F.args_set_iter_1 _))
  unfold Builtin.«frozenset.__iter__» Builtin.Frozenset.slot0 slotArgs
  simp only [List.isEmpty_nil, Bool.not_true, Bool.false_eq_true, ↓reduceIte, bind_assoc, List.length_nil, bne_self_eq_false]
  refine wpAny_bind (m := Builtin.Frozenset.addrOf _) (wpAny_pure ?_)
  unfold Builtin.Frozenset.sizeOf
  refine wpAny_bind (wpAny_bind (wpAny_setEntries_of ho hd hf (wpAny_pure ?_)))
  have fin : ∀ (first : Value) (s1 : Shared), (∀ b o, s.heap.get? b = some o → s1.heap.get? b = some o) → s.heap.objs.size ≤ s1.heap.objs.size → s1.os = s.os → s1.gens = s.gens → (∀ h' it, (∀ b o, s1.heap.get? b = some o → h'.get? b = some o) → h'.get? it = some { cls := .type "set_iterator", data := .fields #[first, rawInt (0 : Nat), .ref a, rawInt es.size, rawInt ep] } → it = s1.heap.objs.size → ∃ wk, wk.Perm (es.toList.map (·.2)) ∧ SetIt w h' it a es ep t wk 0) →
      wpAny (model prog w) A.in1 (do let e ← setEpoch a; let it ← newFields "set_iterator" [first, rawInt 0, .ref a, rawInt es.size, rawInt e]; ret it) (fun fin s' => ∃ r, fin = .done (.ret r) ∧ ∃ T' r', s'.TypeIs r T' ∧ typeLookup (.type T') "__next__" = pure (some r') ∧ Q r s') E s1 := fun first s1 hk hz h1 h2 hw => by
    obtain ⟨⟨o1, ho1, hc1, hd1⟩, hf1⟩ := X.at' (fun o e => hk a o e)
    refine wpAny_bind ?_
    unfold setEpoch
    refine wpAny_bind (wpAny_setState_of ho1 hd1 hf1 (wpAny_pure ?_))
    refine wpAny_bind ?_
    unfold newFields
    refine wpAny_newObj_type ?_ (by size_fits)
    obtain ⟨wk, hp, hi⟩ := hw _ s1.heap.objs.size (fun b o e => Heap.get?_push_of_some _ e) (Heap.get?_push_size _ rfl) rfl
    exact wpAny_pure ⟨_, rfl, "set_iterator", _, ⟨_, Heap.get?_push_size _ rfl, rfl⟩, setit_lookup, hQ _ wk _ hp (fun b o e => Heap.get?_push_of_some _ (hk b o e)) hz hi h1 h2⟩
  have e63 : scanBound = 4096 := rfl
  refine wpAny_bind (m := setDrawn a) (s_setDrawn ho hd hf ?_)
  by_cases hbt : byText w
  · rw [show w.params.followText "set-order" = true from hbt]
    simp only [Bool.not_true, Bool.false_and, Bool.false_eq_true, if_false]
    exact fin (rawInt 0) s (fun _ _ e => e) (Nat.le_refl _) rfl rfl fun h' it hk hi _ => ⟨_, (pick_perm _ _).map _, rawInt 0, hi, .inl ⟨hbt, ⟨0, rfl⟩, rfl⟩⟩
  · have hbf : w.params.followText "set-order" = false := by simpa [byText] using hbt
    rw [hbf]
    have hled : t.led = true := hl.resolve_right hbt
    by_cases h1 : es.size > 1
    · have hpl : t.plain = false := hp.resolve_left (by lia)
      simp only [hpl, h1, decide_true, Bool.not_false, Bool.and_self, if_true]
      refine wpAny_bind (wpAny_drawOrder es.size (List.range es.size) (by simp) fun ys d hys => ?_)
      have hys' : ∀ j ∈ ys, j < es.size := fun j hj => by simpa using hys.mem_iff.mp hj
      refine wpAny_bind (wpAny_newTuple ?_ (by rw [List.length_map, hys.length_eq, List.length_range, sizeLine_eq]; lia))
      refine fin _ _ (fun _ _ e => Heap.get?_push_of_some _ e) (by show _ ≤ (s.heap.push _).objs.size; rw [Heap.size_push]; lia) rfl rfl fun h' it hk hi hit => ⟨ys.map (fun j => (es.getD j (0, .none)).2), ?_, .ref s.heap.objs.size, hi, .inr (.inl ⟨hbt, s.heap.objs.size, ys, 0, rfl, ?_, ?_, rfl, hys'⟩)⟩
      · refine (hys.map _).trans ?_
        have e : (List.range es.size).map (fun j => (es.getD j (0, .none)).2) = es.toList.map (·.2) := by
          refine List.ext_getElem (by simp) fun i h1 h2 => ?_
          simp at h1 h2
          simp [h1]
        rw [e]
      · rw [hit]; show _ ≠ (s.heap.push _).objs.size; rw [Heap.size_push]; lia
      · exact hk _ _ (Heap.get?_push_size _ rfl)
    · have e0 : (!t.plain && decide (es.size > 1)) = false := by simp [h1]
      simp only [e0, Bool.not_false, Bool.true_and, Bool.false_eq_true, if_false]
      refine fin (rawInt 0) s (fun _ _ e => e) (Nat.le_refl _) rfl rfl fun h' it hk hi _ => ⟨_, .refl _, rawInt 0, hi, .inr (.inr ⟨hbt, by lia, hled, rfl, 0, rfl, ?_⟩)⟩
      simp only [SetTable.fits, Bool.and_eq_true, beq_iff_eq] at hf
      cases hpl : t.place with | mk l =>
      rw [hpl] at hf
      simp at hf
      match l, hf with
      | [], _ => exact below_nil
      | [p], _ => exact below_zero1
      | _ :: _ :: _, hf => simp at hf; lia
end
end Mine
end
section
open PySem PySem.W PyProof.Rows
namespace Mine
section
variable {prog : Program} {w : World} {A : Around} {E : Value → Shared → Prop} {s : Shared} {a it : Addr} {es : Array (Int × Value)} {ep : Nat} {t : SetTable} {wk : List Value} {i : Nat}

theorem s_setWalk_text (X : SetO s.heap a es ep t) (hb : byText w) {Q : Array (Int × Value) → Shared → Prop} (h : Q (pickOrder (w.params.setOrder a ep) es) s) : wpAny (model prog w) A (setWalk a) Q E s := by
  obtain ⟨⟨o, ho, hc, hd⟩, hf⟩ := X
  unfold setWalk setsByText
  refine wpAny_bind (wpAny_setState_of ho hd hf ?_)
  refine wpAny_bind (wpAny_bind (wpAny_askSetting (wpAny_pure ?_)))
  rw [show (model prog w).w.params.followText "set-order" = true from hb]
  simp only [if_true]
  exact wpAny_bind (wpAny_askSetting (wpAny_pure h))

theorem s_setNext_text (X : SetO s.heap a es ep t) (hb : byText w) {slot g : Nat} {Q : Option (Value × Nat) → Shared → Prop} (h : Q (((pickOrder (w.params.setOrder a ep) es)[g]?).map fun e => (e.2, slot)) s) : wpAny (model prog w) A (setNext a slot g ep) Q E s := by
  obtain ⟨⟨o, ho, hc, hd⟩, hf⟩ := id X
  unfold setNext
  refine wpAny_bind (wpAny_setState_of ho hd hf ?_)
  dsimp only
  refine wpAny_bind (m := setsByText) ?_
  unfold setsByText
  refine wpAny_bind (wpAny_askSetting (wpAny_pure ?_))
  rw [show (model prog w).w.params.followText "set-order" = true from hb]
  simp only [if_true, bne_self_eq_false, Bool.false_eq_true, if_false]
  exact wpAny_bind (s_setWalk_text X hb (wpAny_pure h))

theorem s_setNext_slot (X : SetO s.heap a es ep t) (hb : ¬ byText w) (h1 : es.size ≤ 1) (hl : t.led = true) {slot g : Nat} {Q : Option (Value × Nat) → Shared → Prop}
    (h : Q (match es[SetTable.below t.place slot]?, t.place[SetTable.below t.place slot]? with | some (_, x), some j => some (x, j + 1) | _, _ => none) s) : wpAny (model prog w) A (setNext a slot g ep) Q E s := by
  obtain ⟨⟨o, ho, hc, hd⟩, hf⟩ := id X
  have hbf : w.params.followText "set-order" = false := by simpa [byText] using hb
  unfold setNext
  refine wpAny_bind (wpAny_setState_of ho hd hf ?_)
  dsimp only
  refine wpAny_bind (m := setsByText) ?_
  unfold setsByText
  refine wpAny_bind (wpAny_askSetting (wpAny_pure ?_))
  refine wiF (by rw [show (model prog w).w.params.followText "set-order" = false from hbf]; exact Bool.false_ne_true) ?_
  refine wiF (fun q => Nat.not_lt.mpr h1 (of_decide_eq_true (Bool.and_eq_true_iff.mp q).2)) ?_
  refine wpAny_bind (wiF (fun q => ?_) ?_)
  · have := (Bool.and_eq_true_iff.mp q).1
    rw [hl] at this; exact noB this
  exact wpAny_pure (wpAny_pure h)

theorem stop_new (hh : A.handled = none) {h0 : Heap} (hk : Heap.ExtBut it h0 s.heap) {α : Type} {R : α → Shared → Prop}
    (hQ : ∀ e h', Heap.ExtBut it h0 h' → Shared.TypeIs { s with heap := h' } e "StopIteration" → E e { s with heap := h' }) :
    wpAny (model prog w) A (do let e ← newExc (.type "StopIteration") []; raiseNew e : Sem α) R E s := by
  refine wpAny_bind ?_
  unfold newExc newTuple
  refine wpAny_bind (wpAny_newObj_type ?_ (by size_fits))
  refine wpAny_bind (m := firstArgMember _ _) (wpAny_of_eq (a := Value.none) (by first | rfl | (simp only [firstArgMember]; rfl)) ?_)
  refine wpAny_newObj_type ?_ (by size_fits)
  unfold raiseNew
  refine wpAny_bind (wpAny_handled ?_)
  rw [hh]
  refine wpAny_bind (wpAny_pure (wpAny_throw (hQ _ _ ((hk.push _).push _) ?_)))
  exact ⟨_, Heap.get?_push_size _ rfl, rfl⟩
theorem fields_set {h : Heap} {it : Addr} {c : Value} {vs : Array Value} (k : Nat) (x : Value) (ho : h.get? it = some { cls := c, data := .fields vs }) :
    (h.update it (Obj.mapFields (·.setIfInBounds k x))).get? it = some { cls := c, data := .fields (vs.setIfInBounds k x) } := Heap.get?_update_self _ ho rfl

theorem next_core (hh : A.handled = none) (X : SetO s.heap a es ep t) (I : SetIt w s.heap it a es ep t wk i) {P : PySem.Fin → Shared → Prop}
    (h1 : ∀ v h', wk[i]? = some v → Heap.SameBut it s.heap h' → SetIt w h' it a es ep t wk (i + 1) → P (.done (.ret v)) { s with heap := h' })
    (h2 : ∀ e h', wk[i]? = none → Heap.ExtBut it s.heap h' → Shared.TypeIs { s with heap := h' } e "StopIteration" → E e { s with heap := h' }) : wpAny (model prog w) A (Builtin.«set_iterator.__next__» ⟨[.ref it], []⟩) P E s := by
  obtain ⟨⟨o, ho, hc, hd⟩, hf⟩ := id X
  obtain ⟨first, hi, hI⟩ := id I
  unfold Builtin.«set_iterator.__next__»
  refine wpAny_bind (wpAny_of_eq (a := (.ref it, [])) rfl ?_)
  refine wpAny_bind (wpAny_fieldsOf hi rfl ?_)
  refine wpAny_bind (wpAny_setEntries_of ho hd hf ?_)
  refine wiF (by simp) ?_
  have wr : ∀ {h' : Heap} (k : Nat) (x : Value), Heap.SameBut it h' (h'.update it (Obj.mapFields (·.setIfInBounds k x))) := fun k x => Heap.SameBut.update ..
  rcases hI with ⟨hb, ⟨z, rfl⟩, hw⟩ | ⟨hb, tp, ps, k, rfl, htp, hps, hw, hlt⟩ | ⟨hb, hsz, hled, hw, z, rfl, hz⟩
  · refine wpAny_bind (s_setNext_text X hb ?_)
    rw [Int.toNat_natCast]
    cases hx : (pickOrder (w.params.setOrder a ep) es)[i]? with
    | none =>
      have hn : wk[i]? = none := by rw [hw, List.getElem?_map, Array.getElem?_toList, hx]; rfl
      exact wpAny_bind (wpAny_setField hi rfl (by simp) (stop_new (it := it) (h0 := s.heap) hh (wr _ _).extBut fun e h' => h2 e h' hn))
    | some e =>
      have hn : wk[i]? = some e.2 := by rw [hw, List.getElem?_map, Array.getElem?_toList, hx]; rfl
      refine wpAny_bind (wpAny_setField hi rfl (by simp) ?_)
      have hi2 := fields_set 0 (rawInt z.toNat) hi
      refine wpAny_bind (wpAny_setField hi2 rfl (by simp) ?_)
      have hi3 := fields_set 1 (rawInt ((i : Int) + 1)) hi2
      exact wpAny_pure (h1 _ _ hn ((wr _ _).trans (wr _ _)) ⟨rawInt z.toNat, hi3, .inl ⟨hb, ⟨_, rfl⟩, hw⟩⟩)
  · refine wpAny_bind (wpAny_bind (wpAny_load hps (wpAny_pure ?_)))
    show wpAny _ _ (match (List.map (fun j : Nat => rawInt j) ps).toArray[(i : Int).toNat]? with | some (.int place _) => _ | some _ => _ | none => _) _ _ _
    rw [Int.toNat_natCast, List.getElem?_toArray, List.getElem?_map]
    cases hx : ps[i]? with
    | none =>
      have hn : wk[i]? = none := by rw [hw, List.getElem?_map, hx]; rfl
      refine wpAny_bind (wpAny_setField hi rfl (by simp) ?_)
      have hi2 := fields_set 0 (rawInt 0) hi
      exact wpAny_bind (wpAny_setField hi2 rfl (by simp) (stop_new (it := it) (h0 := s.heap) hh ((wr _ _).trans (wr _ _)).extBut fun e h' => h2 e h' hn))
    | some j =>
      have hj : j < es.size := hlt j (List.mem_of_getElem? hx)
      have hn : wk[i]? = some es[j].2 := by rw [hw, List.getElem?_map, hx]; simp [hj]
      refine wpAny_bind (m := setNextDrawn a j ep) ?_
      unfold setNextDrawn
      refine wpAny_bind (wpAny_setState_of ho hd hf ?_)
      refine wiF (by simp) ?_
      rw [Array.getElem?_eq_getElem hj]
      refine wpAny_pure (wpAny_bind (wpAny_setField hi rfl (by simp) ?_))
      have hi2 := fields_set 1 (rawInt ((i : Int) + 1)) hi
      exact wpAny_pure (h1 _ _ hn (wr _ _) ⟨.ref tp, hi2, .inr (.inl ⟨hb, tp, ps, k, rfl, htp, (wr _ _).extBut _ _ htp hps, hw, hlt⟩)⟩)
  · refine wpAny_bind (s_setNext_slot X hb hsz hled ?_)
    rw [Int.toNat_natCast, hz]
    have hpz : t.place.size = es.size := (Bool.and_eq_true_iff.mp hf).1 |> beq_iff_eq.mp
    by_cases hie : i < es.size
    · have hn : wk[i]? = some es[i].2 := by rw [hw, List.getElem?_map, Array.getElem?_toList, Array.getElem?_eq_getElem hie]; rfl
      rw [Array.getElem?_eq_getElem hie, Array.getElem?_eq_getElem (hpz ▸ hie : i < t.place.size)]
      refine wpAny_bind (wpAny_setField hi rfl (by simp) ?_)
      have hi2 := fields_set 0 (rawInt ((t.place[i] + 1 : Nat) : Int)) hi
      refine wpAny_bind (wpAny_setField hi2 rfl (by simp) ?_)
      have hi3 := fields_set 1 (rawInt ((i : Int) + 1)) hi2
      refine wpAny_pure (h1 _ _ hn ((wr _ _).trans (wr _ _)) ⟨rawInt ((t.place[i] + 1 : Nat) : Int), hi3, .inr (.inr ⟨hb, hsz, hled, hw, _, rfl, ?_⟩)⟩)
      cases Nat.lt_one_iff.mp (Nat.lt_of_lt_of_le hie hsz)
      have key : ∀ (pl : Array Nat) (h0 : 0 < pl.size), pl.size ≤ 1 → SetTable.below pl (pl[0] + 1) = 0 + 1 := fun pl h0 h1 => by
        cases pl with | mk l =>
        match l, h0, h1 with
        | [p], _, _ => exact below_next1
        | _ :: _ :: _, _, h1 => simp at h1
      exact key t.place (by lia) (by lia)
    · have hn : wk[i]? = none := by rw [hw, List.getElem?_map, Array.getElem?_toList, Array.getElem?_eq_none (by lia)]; rfl
      rw [Array.getElem?_eq_none (by lia : es.size ≤ i)]
      exact wpAny_bind (wpAny_setField hi rfl (by simp) (stop_new (it := it) (h0 := s.heap) hh (wr _ _).extBut fun e h' => h2 e h' hn))

theorem s_next_set (hh : A.handled = none) (X : SetO s.heap a es ep t) (I : SetIt w s.heap it a es ep t wk i) {Q : Option Value → Shared → Prop}
    (h1 : ∀ v h', wk[i]? = some v → Heap.SameBut it s.heap h' → SetIt w h' it a es ep t wk (i + 1) → Q (some v) { s with heap := h' })
    (h2 : ∀ h', wk[i]? = none → Heap.ExtBut it s.heap h' → Q none { s with heap := h' }) : wpAny (model prog w) A (pyNext (.ref it)) Q E s := by
  obtain ⟨first, hi, _⟩ := id I
  have hT : s.TypeIs (.ref it) "set_iterator" := ⟨_, hi, rfl⟩
  unfold pyNext
  refine wpAny_bind (wpAny_attempt (wpAny_callSpecial?_slot (name := Str.ofString "__next__") hT slot_setit_next
    (wpAny_call_entry slot_setit_next hT entry_setit_next ?_ (args_setit_next _))))
  exact next_core (A := A.in1) hh X I (fun v h' a b c => ⟨_, rfl, wpAny_pure (h1 v h' a b c)⟩) fun e h' a b c => wpAny_bind (wpAny_isInstance (T := "StopIteration") (b := true) c isSubtype_stop (wiT rfl (wpAny_pure (h2 h' a b))))
end
end Mine
end
section
open PySem PySem.W PyProof.Rows
namespace Mine
theorem set_len_look : typeLookup (.type "set") "__len__" = pure (some (.builtin "set.__len__")) := by rw [typeLookup_type, builtinLookup_eq_fast]; kernel_rfl
section
variable {prog : Program} {w : World} {A : Around} {E : Value → Shared → Prop} {s : Shared} {a : Addr} {es : Array (Int × Value)} {ep : Nat} {t : SetTable} {wk : List Value}

theorem set_hint (hT : s.TypeIs (.ref a) "set") {Q : Bool → Shared → Prop} (h : Q false s) : wpAny (model prog w) A (Builtin.List.listLengthHint (.ref a)) Q E s := by
  unfold Builtin.List.listLengthHint
  refine wpAny_bind (wpAny_specialOf hT set_len_look ?_)
  generalize hid : ("set.__len__" : String) = id0
  wp_delta
  rw [show splitId id0 = some ("set", "__len__") from by subst hid; decide +kernel]
  subst hid
  refine wpAny_bind (wpAny_isInstance (T := "set") (b := true) hT (by rw [isSubtype_type]; kernel_rfl) ?_)
  refine wpAny_ite_split (fun hab => absurd hab (by decide)) (fun _ => ?_)
  refine wpAny_ite_split (fun _ => ?_) (fun hab => absurd (by decide +kernel) hab)
  refine wpAny_bind (wpAny_typeOf hT ?_)
  exact wpAny_pure h

theorem set_loop {S I : Addr} {R : Result → Shared → Prop} (hh : A.handled = none) (hSI : S ≠ I) (hSa : a ≠ S) (hIa : I ≠ a) (hn : wk.length < scanBound) (res : Value) {h₁ : Heap}
    (hR : ∀ h' c, (∀ b o, b ≠ S → b ≠ I → h₁.get? b = some o → h'.get? b = some o) → h'.get? S = some { cls := .type "list", dict := none, data := .seq wk.toArray c, slots := #[] } → R (.ok (.ret res)) { s with heap := h' }) :
    ∀ (k i : Nat) (h : Heap) (c : Nat), wk.length - i = k → i ≤ wk.length → SetIt w h I a es ep t wk i → SetO h a es ep t → (∀ b o, b ≠ S → b ≠ I → h₁.get? b = some o → h.get? b = some o) →
      h.get? S = some { cls := .type "list", dict := none, data := .seq (wk.take i).toArray c, slots := #[] } →
      codeAny (model prog w) A (.builtin "list.extend.loop" ⟨[.ref S, .ref I, res], []⟩) R { s with heap := h } := by
  intro k
  have e63 : scanBound = 4096 := rfl
  induction k with
  | zero =>
    intro i h c hk hi hst hD hkeep hS
    have hin : i = wk.length := by lia
    refine codeAny_builtin PySem.F.entry_extend_loop ?_
    rw [Around.under_plainId PySem.F.plain_extend_loop _]
    show wpAny _ A.in1 (pyNext (.ref I) >>= _) _ _ _
    refine wpAny_bind (s_next_set (s := { s with heap := h }) (A := A.in1) hh hD hst (fun v h' hv _ _ => ?_) fun h' _ he => ?_)
    · rw [List.getElem?_eq_none (by lia)] at hv; cases hv
    · refine wpAny_pure (hR h' c (fun b o h1 h2 e => he b o h2 (hkeep b o h1 h2 e)) (he S _ hSI ?_))
      rw [hin, List.take_length] at hS; exact hS
  | succ k ih =>
    intro i h c hk hi hst hD hkeep hS
    have hlt : i < wk.length := by lia
    refine codeAny_builtin PySem.F.entry_extend_loop ?_
    rw [Around.under_plainId PySem.F.plain_extend_loop _]
    show wpAny _ A.in1 (pyNext (.ref I) >>= _) _ _ _
    refine wpAny_bind (s_next_set (s := { s with heap := h }) (A := A.in1) hh hD hst (fun v h' hv hsb hst' => ?_) fun h' hv _ => ?_)
    · dsimp only
      have hS' := hsb.extBut S _ hSI hS
      have up : ∀ b o, b ≠ S → h'.get? b = some o → (h'.update S (Obj.mapSeq (·.push v))).get? b = some o := fun b o hb e => (Heap.get?_update_other _ _ (Ne.symm hb)).trans e
      have htk : (wk.take i).toArray.push v = (wk.take (i + 1)).toArray := by
        rw [List.take_add_one, hv]; simp
      have hS2 : (h'.update S (Obj.mapSeq (·.push v))).get? S = some { cls := .type "list", dict := none, data := .seq ((wk.take i).toArray.push v) _, slots := #[] } := Heap.get?_update_self _ hS' rfl
      rw [htk] at hS2
      show wpAny _ A.in1 (updateSeq S (·.push v) >>= _) _ _ _
      refine wpAny_bind ?_
      refine wpAny_updateSeq hS' rfl (wpAny_pure ⟨plainId_quiet PySem.F.plain_extend_loop _, ih (i + 1) _ _ (by lia) hlt ?_ ?_ (fun b o h1 h2 e => up b o h1 (hsb.extBut b o h2 (hkeep b o h1 h2 e))) hS2⟩) ?_ ?_
      · obtain ⟨first, e1, e2⟩ := hst'
        refine ⟨first, up _ _ (Ne.symm hSI) e1, ?_⟩
        rcases e2 with e2 | ⟨q1, tp, ps, k, q2, q3, q4, q5⟩ | e2
        · exact .inl e2
        · exact .inr (.inl ⟨q1, tp, ps, k, q2, q3, up _ _ (fun q => by rw [q, hS'] at q4; simp at q4) q4, q5⟩)
        · exact .inr (.inr e2)
      · exact hD.at' fun o e => up a o hSa (hsb.extBut a o (Ne.symm hIa) e)
      · simp only [List.size_toArray, List.length_take, sizeLine_eq]; lia
      · show ((wk.take i).toArray.push v).size ≤ sizeLine + 1
        rw [Array.size_push, sizeLine_eq]; simp only [List.size_toArray, List.length_take]; lia
    · rw [List.getElem?_eq_getElem hlt] at hv; cases hv

theorem set_collect {R : List Value → Shared → Prop} (hh : A.handled = none) (X : SetO s.heap a es ep t) (hl : t.led = true ∨ byText w) (hp : es.size = 0 ∨ t.plain = false) (hb : es.size < scanBound)
    (h : ∀ wk s', wk.Perm (es.toList.map (·.2)) → (∀ b o, s.heap.get? b = some o → s'.heap.get? b = some o) → s'.os = s.os → s'.gens = s.gens → R wk s') :
    wpAny (model prog w) A (collect (.ref a)) R E s := by
  have e63 : scanBound = 4096 := rfl
  have ha : a < s.heap.objs.size := let ⟨_, ho, _⟩ := X.ob; Heap.lt_size ho
  unfold collect
  refine wpAny_bind (wpAny_runValue (codeAny_builtin entry_proto_collect' ?_))
  rw [Around.under_plainId PySem.F.plain_proto_collect _]
  show wpAny _ A.in1 (newList [] >>= fun l => again (.builtin "list.__iadd__" ⟨[l, .ref a], []⟩)) _ _ s
  refine wpAny_bind (wpAny_newObj_type ?_)
  refine wpAny_pure ⟨plainId_quiet PySem.F.plain_list_iadd _, codeAny_builtin entry_list_iadd' ?_⟩
  rw [Around.under_plainId PySem.F.plain_list_iadd _]
  have hS₁ : (s.heap.push { cls := .type "list", data := .seq ([] : List Value).toArray }).get? s.heap.objs.size = some { cls := .type "list", data := .seq #[] } := Heap.get?_push_size _ rfl
  have X1 : SetO (s.heap.push { cls := .type "list", data := .seq ([] : List Value).toArray }) a es ep t := X.at' fun o e => Heap.get?_push_of_some _ e
  have hT : Shared.TypeIs { s with heap := s.heap.push { cls := .type "list", data := .seq ([] : List Value).toArray } } (.ref a) "set" := let ⟨o, ho, hc, _⟩ := X1.ob; ⟨o, ho, hc⟩
  show wpAny _ A.in1 (Builtin.List.listExtendWith (.ref s.heap.objs.size) (.ref a) (.ref s.heap.objs.size)) _ _ _
  unfold Builtin.List.listExtendWith
  refine wpAny_bind (wpAny_typeOf (T := "set") hT ?_)
  have h1 : Builtin.List.listSameRef (.ref s.heap.objs.size) (.ref a) = false := decide_eq_false (Nat.ne_of_gt ha)
  have h2 : (Value.type "set" == Value.type "list") = false := by decide
  have h3 : (Value.type "set" == Value.type "tuple") = false := by decide
  refine wiF (by rw [h1, h2, h3]; exact Bool.false_ne_true) ?_
  refine wpAny_bind (s_pyIter_set X1 hl hp hb fun it wk s' hpm hk hit hst hos hgs => ?_)
  have hS' := hk _ _ hS₁
  have hsz : (s.heap.push { cls := .type "list", data := .seq ([] : List Value).toArray }).objs.size = s.heap.objs.size + 1 := by rw [Heap.size_push]
  replace hit : s.heap.objs.size + 1 ≤ it := by rw [← hsz]; exact hit
  have X2 := X1.at' fun o e => hk a o e
  have hT2 : s'.TypeIs (.ref a) "set" := let ⟨o, ho, hc, _⟩ := X2.ob; ⟨o, ho, hc⟩
  have hwl : wk.length = es.size := by rw [hpm.length_eq]; simp
  have hfin : ∀ {R' : Result → Shared → Prop} (h0 : Heap) (c : Nat), (∀ b o, b ≠ s.heap.objs.size → s'.heap.get? b = some o → h0.get? b = some o) → h0.get? s.heap.objs.size = some { cls := .type "list", dict := none, data := .seq #[] c, slots := #[] } →
      (∀ h' c, (∀ b o, s.heap.get? b = some o → h'.get? b = some o) → h'.get? s.heap.objs.size = some { cls := .type "list", dict := none, data := .seq wk.toArray c, slots := #[] } → R' (.ok (.ret (.ref s.heap.objs.size))) { s' with heap := h' }) →
      codeAny (model prog w) A (.builtin "list.extend.loop" ⟨[.ref s.heap.objs.size, .ref it, .ref s.heap.objs.size], []⟩) R' { s' with heap := h0 } := fun {R'} h0 c hk0 hS0 hr => by
    refine set_loop (es := es) (ep := ep) (t := t) (a := a) (wk := wk) hh (Nat.ne_of_lt hit) (Nat.ne_of_lt ha) (Nat.ne_of_gt (Nat.lt_trans ha hit)) (by lia) _ (h₁ := s.heap) (fun h' c' hk' hS2 => hr h' c' (fun b o e => hk' b o (Nat.ne_of_lt (Heap.lt_size e)) (Nat.ne_of_lt (Nat.lt_trans (Heap.lt_size e) hit)) e) hS2) wk.length 0 h0 c (by lia) (Nat.zero_le _) ?_ (X2.at' fun o e => hk0 a o (Nat.ne_of_lt ha) e) (fun b o hb _ e => hk0 b o hb (hk b o (Heap.get?_push_of_some _ e))) hS0
    obtain ⟨first, e1, e2⟩ := hst
    refine ⟨first, hk0 _ _ (Nat.ne_of_gt hit) e1, ?_⟩
    rcases e2 with e2 | ⟨q1, tp, ps, k, q2, q3, q4, q5⟩ | e2
    · exact .inl e2
    · exact .inr (.inl ⟨q1, tp, ps, k, q2, q3, hk0 _ _ (fun q => by rw [q, hS'] at q4; simp at q4) q4, q5⟩)
    · exact .inr (.inr e2)
  have out : ∀ (h' : Heap) (c : Nat), (∀ b o, s.heap.get? b = some o → h'.get? b = some o) → h'.get? s.heap.objs.size = some { cls := .type "list", dict := none, data := .seq wk.toArray c, slots := #[] } →
      wpAny (model prog w) A (do match (Value.ref s.heap.objs.size) with
        | .ref a => match (← load a).data with
          | .seq xs _ => pure xs.toList
          | _ => unsupported "internal:collect"
        | _ => unsupported "internal:collect") R E { s' with heap := h' } := fun h' c hk' hS2 => by
    show wpAny _ A (load s.heap.objs.size >>= _) _ _ _
    refine wpAny_bind (wpAny_load hS2 ?_)
    exact wpAny_pure (h wk _ hpm hk' hos hgs)
  refine wpAny_bind (wpAny_holding (set_hint hT2 ?_))
  refine wpAny_ite_split (fun _ => ?_) (fun _ => wpAny_pure ⟨plainId_quiet PySem.F.plain_extend_loop _, ?_⟩)
  · refine wpAny_bind (wpAny_rule ?_)
    refine wpAny_bind ?_
    show wpAny _ _ (updateSeq s.heap.objs.size (·.push .none) >>= fun _ => updateSeq s.heap.objs.size (·.pop)) _ _ _
    refine wpAny_bind (wpAny_updateSeq hS' rfl ?_)
    have hS₂ := Heap.get?_update_self (Obj.mapSeq (·.push Value.none)) hS' rfl
    refine wpAny_updateSeq (hz := by seq_fits) hS₂ rfl ?_
    have hS₃ := Heap.get?_update_self (Obj.mapSeq (·.pop)) hS₂ rfl
    refine wpAny_pure ⟨plainId_quiet PySem.F.plain_extend_loop _, hfin _ _ (fun b o hb e => ?_) hS₃ fun h' c hk' hS2 => out h' c hk' hS2⟩
    exact (Heap.get?_update_other _ _ (Ne.symm hb)).trans ((Heap.get?_update_other _ _ (Ne.symm hb)).trans e)
  · exact hfin s'.heap _ (fun _ _ _ e => e) hS' fun h' c hk' hS2 => out h' c hk' hS2
end
end Mine
end
section
open PySem PySem.W PyProof.Rows
namespace Mine
noncomputable def addL (ks : List Str) (k : Str) : List Str := if ks.contains k then ks else k :: ks
noncomputable def addAll (ks : List Str) (l : List Str) : List Str := l.foldl addL ks
section
variable {prog : Program} {w : World} {A : Around} {E : Value → Shared → Prop} {s : Shared} {a : Addr}

abbrev SetL (prog : Program) (w : World) (h : Heap) (a : Addr) (ks : List Str) : Prop := SetX prog w h a (fun k => ks.contains k) ks.length ∧ ks.Nodup

theorem SetX.congr {h : Heap} {S S' : Str → Bool} {n n' : Nat} (x : SetX prog w h a S n) (hS : ∀ k, S' k = S k) (hn : n' = n) : SetX prog w h a S' n' := by
  obtain rfl : S' = S := funext hS
  subst hn; exact x

theorem addL_nodup {ks : List Str} {k : Str} (h : ks.Nodup) : (addL ks k).Nodup := by
  unfold addL
  split
  · exact h
  · rename_i hc; exact List.nodup_cons.mpr ⟨fun q => hc (by simpa using q), h⟩
theorem SetX.addL {h : Heap} {ks : List Str} {k : Str} (x : SetX prog w h a (fun k' => ks.contains k' || decide (k' = k)) (if ks.contains k then ks.length else ks.length + 1)) : SetX prog w h a (fun k' => (addL ks k).contains k') (addL ks k).length := by
  unfold Mine.addL
  cases hk : ks.contains k with
  | true =>
    rw [hk] at x
    simp only [if_true] at x ⊢
    refine x.congr (fun k' => ?_) rfl
    by_cases e : k' = k
    · subst e; rw [hk]; rfl
    · simp [e]
  | false =>
    rw [hk] at x
    simp only [Bool.false_eq_true, if_false] at x ⊢
    refine x.congr (fun k' => ?_) rfl
    simp [Bool.or_comm, List.contains_cons, eq_comm]

theorem s_addL {ks : List Str} {k : Str} {u : Tok} {Q : Bool → Shared → Prop} (hX : SetL prog w s.heap a ks) (hroom : ks.length + 1 < scanBound)
    (h : ∀ b h', Heap.SameBut a s.heap h' → SetL prog w h' a (addL ks k) → Q b { s with heap := h' }) :
    wpAny (model prog w) A (setAddHashed a (.str k u) ((PySem.strKind prog w).hash k)) Q E s :=
  setAddX hX.1 hroom fun h' hs x => h _ h' hs ⟨x.addL, addL_nodup hX.2⟩

theorem s_setAdd {ks : List Str} {k : Str} {u : Tok} {Q : Bool → Shared → Prop} (hX : SetL prog w s.heap a ks) (hroom : ks.length + 1 < scanBound)
    (h : ∀ b h', Heap.SameBut a s.heap h' → SetL prog w h' a (addL ks k) → Q b { s with heap := h', toks := s.toks + 1 }) :
    wpAny (model prog w) A (setAdd a (.str k u)) Q E s := by
  unfold setAdd
  exact wpAny_holding (wpAny_bind ((PySem.strKind prog w).pyHash (strKind_is _ _ _ _) (s_addL (s := { s with toks := s.toks + 1 }) hX hroom h)))

theorem addAll_len (ks l : List Str) : (addAll ks l).length ≤ ks.length + l.length := by
  induction l generalizing ks with
  | nil => simp [addAll]
  | cons k l ih =>
    have := ih (addL ks k)
    have h2 : (addL ks k).length ≤ ks.length + 1 := by unfold addL; split <;> simp
    show (addAll (addL ks k) l).length ≤ _
    simp only [List.length_cons]; lia
theorem addAll_snoc (ks l : List Str) (k : Str) : addAll ks (l ++ [k]) = addL (addAll ks l) k := by simp [addAll]

theorem c_set_add {ks : List Str} {k : Str} {u : Tok} {Q : Value → Shared → Prop} (hX : SetL prog w s.heap a ks) (hroom : ks.length + 1 < scanBound)
    (h : ∀ h', Heap.SameBut a s.heap h' → SetL prog w h' a (addL ks k) → Q .none { s with heap := h', toks := s.toks + 1 }) :
    wpAny (model prog w) A (call (.builtin "set.add") [.ref a, .str k u]) Q E s := by
  refine wpAny_call_entry F.slot_set_add hX.1.set.typeIs F.entry_set_add ?_ (F.args_set_add_2 _ _)
  unfold Builtin.«set.add» Builtin.Frozenset.oneOther
  simp only [List.isEmpty_nil, bind_assoc]
  unfold Builtin.Frozenset.addrOf
  refine wpAny_bind (wpAny_pure ?_)
  try dsimp only
  refine wpAny_bind (wpAny_pure ?_)
  try dsimp only
  refine wpAny_bind (s_setAdd hX hroom fun b h' hs hL => ?_)
  show wpAny _ _ (ret Value.none) _ _ _
  exact wpAny_pure ⟨_, rfl, h h' hs hL⟩

theorem str_of_is {k : Str} {v : Value} (h : (PySem.strKind prog w).is k v = true) : ∃ t, v = .str k t := by
  cases v <;> simp [PySem.strKind, Value.isStrOf] at h
  subst h; exact ⟨_, rfl⟩

theorem pairs_get {knd : KeyKind prog w Str} : ∀ {es : List DictEntry} {kvs : List (Str × Value)}, Pairs knd es kvs → ∀ {i : Nat} {e : DictEntry}, es[i]? = some e → ∃ kv, kvs[i]? = some kv ∧ knd.is kv.1 e.key = true
  | _, _, .nil, i, e, h => by simp at h
  | _, _, .cons a b c, 0, e, h => by simp at h; subst h; exact ⟨_, rfl, a⟩
  | _, _, .cons a b c, i + 1, e, h => by simpa using pairs_get c (by simpa using h)

/-- the walk over a dict's keys, one by one -/
theorem star_loop {d : Addr} {od : Obj} {des : Array DictEntry} {dep : Nat} {kvs : List (Str × Value)} {ks : List Str} (hd : od.data = .dict des dep) (hda : d ≠ a) (hK : KeysOf (PySem.strKind prog w) des) (hP : Pairs (PySem.strKind prog w) des.toList kvs)
    (hroom : ks.length + kvs.length + 1 < scanBound) {β : Type} {f : Nat → β → Sem (ForInStep β)} {b₀ : β} {Q : β → Shared → Prop}
    (hf : ∀ i (s : Shared) (R : ForInStep β → Shared → Prop), s.heap.get? d = some od → (∀ e, des[i]? = some e → wpAny (model prog w) A (setAddHashed a e.key e.hash) (fun _ s' => s'.heap.get? d = some od ∧ R (.yield b₀) s') E s) → i < des.size → wpAny (model prog w) A (f i b₀) R E s) :
    ∀ (n i : Nat) (s : Shared), i + n = des.size → s.heap.get? d = some od → SetL prog w s.heap a (addAll ks ((kvs.map (·.1)).take i)) →
      (∀ h', Heap.SameBut a s.heap h' → SetL prog w h' a (addAll ks (kvs.map (·.1))) → Q b₀ { s with heap := h' }) →
      wpAny (model prog w) A (forIn (List.range' i n) b₀ f) Q E s := by
  have hlen : kvs.length = des.size := by rw [← hP.length]; simp
  intro n
  induction n with
  | zero =>
    intro i s hi hod hX h
    rw [List.range'_zero, List.forIn_nil]
    have e : (kvs.map (·.1)).take i = kvs.map (·.1) := List.take_of_length_le (by simp; lia)
    rw [e] at hX
    exact wpAny_pure (h s.heap (Heap.SameBut.refl _ _) hX)
  | succ n ih =>
    intro i s hi hod hX h
    rw [List.range'_succ, List.forIn_cons]
    refine wpAny_bind (hf i s _ hod (fun e he => ?_) (by lia))
    have he' : des.toList[i]? = some e := by rw [Array.getElem?_toList]; exact he
    obtain ⟨kv, hkv, his⟩ := pairs_get hP he'
    obtain ⟨k2, hk2, hh⟩ := hK e (Array.mem_of_getElem? he)
    obtain rfl := (PySem.strKind prog w).inj _ _ _ hk2 his
    obtain ⟨u, hu⟩ := str_of_is his
    rw [hh, hu]
    have hl := addAll_len ks ((kvs.map (·.1)).take i)
    have hl2 : ((kvs.map (·.1)).take i).length ≤ kvs.length := by simp; lia
    refine s_addL hX (by lia) fun b h' hs hL => ⟨hs.extBut d _ hda hod, ?_⟩
    refine ih (i + 1) { s with heap := h' } (by lia) (hs.extBut d _ hda hod) ?_ fun h'' hs2 hL2 => h h'' (hs.trans hs2) hL2
    have e2 : (kvs.map (·.1)).take (i + 1) = (kvs.map (·.1)).take i ++ [kv.1] := by
      rw [List.take_add_one, List.getElem?_map, hkv]; rfl
    rw [e2, addAll_snoc]; exact hL
end
end Mine
end
section
open PySem PySem.W PyProof.Rows
namespace Mine
theorem sub_dict_set : isSubtype (.type "dict") (.type "set") = pure false := by rw [isSubtype_type]; kernel_rfl
theorem sub_dict_frozenset : isSubtype (.type "dict") (.type "frozenset") = pure false := by rw [isSubtype_type]; kernel_rfl
section
variable {prog : Program} {w : World} {A : Around} {E : Value → Shared → Prop} {s : Shared} {a d : Addr} {kvs : List (Str × Value)} {ks : List Str}

theorem noRoom (hX : SetL prog w s.heap a [k0]) {n : Nat} (hn : n ≤ 3) {Q : Unit → Shared → Prop} (h : Q () s) : wpAny (model prog w) A (setRoomFor a n) Q E s := by
  obtain ⟨⟨⟨o, es, ep, t, ho, hex, hd, hel, hmem, hb, hf, hn'⟩, o', es', ep', t', ho', hd', hl, hp, hsm⟩, _⟩ := hX
  rw [ho] at ho'; cases ho'
  rw [hd] at hd'; cases hd'
  unfold setRoomFor
  refine wpAny_bind (wpAny_setState_of ho hd hf ?_)
  dsimp only
  have hz : es.size = 1 := by simpa using hn'
  obtain ⟨q1, q2⟩ := hsm (by lia)
  have hr : t.roomFor n = none := by
    unfold SetTable.roomFor SetTable.fill
    simp only [SetTable.fits, Bool.and_eq_true, beq_iff_eq] at hf
    rw [if_neg (by rw [hf.1, q1, hz]; lia)]
  rw [hr]
  exact wpAny_pure h

theorem upd_loop {I : Addr} {ep : Nat} {R : Result → Shared → Prop} (hh : A.handled = none) (hIa : I ≠ a) (hda : d ≠ a) (hId : d ≠ I) (hroom : ks.length + kvs.length + 1 < scanBound) {h₁ : Heap}
    (hR : ∀ h' tk, (∀ b o, b ≠ a → b ≠ I → h₁.get? b = some o → h'.get? b = some o) → SetL prog w h' a (addAll ks (kvs.map (·.1))) → R (.ok (.ret .none)) { s with heap := h', toks := tk }) :
    ∀ (n i : Nat) (h : Heap) (tk : Nat), i + n = kvs.length → h.IsKeyIter I d i kvs.length ep → h.DictAt (PySem.strKind prog w) d kvs ep → (∀ b o, b ≠ a → b ≠ I → h₁.get? b = some o → h.get? b = some o) →
      SetL prog w h a (addAll ks ((kvs.map (·.1)).take i)) → codeAny (model prog w) A (.builtin "set.update.loop" ⟨[.ref a, .ref I], []⟩) R { s with heap := h, toks := tk } := by
  intro n
  induction n with
  | zero =>
    intro i h tk hi hit hm hk hX
    refine codeAny_builtin F.entry_set_update_loop ?_
    rw [Around.under_plainId F.plain_set_update_loop _]
    show wpAny _ A.in1 (pyNext (.ref I) >>= _) _ _ _
    refine wpAny_bind (wpAny_pyNext_dict_end (s := { s with heap := h, toks := tk }) (A := A.in1) hh hit hm (List.getElem?_eq_none (by lia)) fun h' he => ?_)
    show wpAny _ A.in1 (ret Value.none) _ _ _
    have e : (kvs.map (·.1)).take i = kvs.map (·.1) := List.take_of_length_le (by simp; lia)
    rw [e] at hX
    refine wpAny_pure (hR h' tk (fun b o h1 h2 q => he b o h2 (hk b o h1 h2 q)) ?_)
    obtain ⟨⟨⟨o, es, ep, t, ho, r⟩, o', es', ep', t', ho', r'⟩, nd⟩ := hX
    exact ⟨⟨⟨o, es, ep, t, he a _ (Ne.symm hIa) ho, r⟩, o', es', ep', t', he a _ (Ne.symm hIa) ho', r'⟩, nd⟩
  | succ n ih =>
    intro i h tk hi hit hm hk hX
    refine codeAny_builtin F.entry_set_update_loop ?_
    rw [Around.under_plainId F.plain_set_update_loop _]
    show wpAny _ A.in1 (pyNext (.ref I) >>= _) _ _ _
    obtain ⟨⟨kk, x⟩, hx⟩ : ∃ p, kvs[i]? = some p := ⟨kvs[i], List.getElem?_eq_getElem (by lia)⟩
    refine wpAny_bind (wpAny_pyNext_dict_item (s := { s with heap := h, toks := tk }) (A := A.in1) hit hm hx fun key h' hkey hit' hsb => ?_)
    obtain ⟨u, rfl⟩ := str_of_is hkey
    have hX' : SetL prog w h' a (addAll ks ((kvs.map (·.1)).take i)) := by
      obtain ⟨⟨⟨o, es, ep, t, ho, r⟩, o', es', ep', t', ho', r'⟩, nd⟩ := hX
      exact ⟨⟨⟨o, es, ep, t, hsb.extBut a _ (Ne.symm hIa) ho, r⟩, o', es', ep', t', hsb.extBut a _ (Ne.symm hIa) ho', r'⟩, nd⟩
    have hl := addAll_len ks ((kvs.map (·.1)).take i)
    have hl2 : ((kvs.map (·.1)).take i).length ≤ kvs.length := by simp; lia
    show wpAny _ A.in1 (holding [_] (setAdd a (.str kk u)) >>= _) _ _ _
    refine wpAny_bind (wpAny_holding (s_setAdd (s := { s with heap := h', toks := tk }) hX' (by lia) fun b h2 hs2 hL => ?_))
    refine wpAny_pure ⟨plainId_quiet F.plain_set_update_loop _, ih (i + 1) h2 (tk + 1) (by lia) (hit'.at fun o e => hs2.extBut I _ hIa e) (hm.at' fun o e => hs2.extBut d _ hda (hsb.extBut d _ hId e)) (fun b o h1 h2 e => hs2.extBut b o h1 (hsb.extBut b o h2 (hk b o h1 h2 e))) ?_⟩
    have e2 : (kvs.map (·.1)).take (i + 1) = (kvs.map (·.1)).take i ++ [kk] := by
      rw [List.take_add_one, List.getElem?_map, hx]; rfl
    rw [e2, addAll_snoc]; exact hL

theorem s_star (hh : A.handled = none) {k0 : Str} (hX : SetL prog w s.heap a [k0]) (hD : s.heap.DictOf (PySem.strKind prog w) d kvs) (hsys : (d == sysModules) = false) (hda : d ≠ a) (hn : kvs.length ≤ 3) {Q : Unit → Shared → Prop}
    (h : ∀ h' tk, (∀ b o, b ≠ a → s.heap.get? b = some o → h'.get? b = some o) → SetL prog w h' a (addAll [k0] (kvs.map (·.1))) → Q () { s with heap := h', toks := tk }) : wpAny (model prog w) A (setDisplayStar a (.ref d)) Q E s := by
  have e63 : scanBound = 4096 := rfl
  obtain ⟨od, des, dep, hod, hex, hdd, hK, hP, hnd⟩ := id hD
  have hT : s.TypeIs (.ref d) "dict" := hD.typeIs
  have hlen : kvs.length = des.size := by rw [← hP.length]; simp
  unfold setDisplayStar
  dsimp only
  refine wpAny_bind (m := isInstance (.ref d) (.type "set")) (wpAny_isInstance hT sub_dict_set ?_)
  refine wpAny_bind (m := isInstance (.ref d) (.type "frozenset")) (wpAny_isInstance hT sub_dict_frozenset ?_)
  refine wpAny_bind (wpAny_askSetting ?_)
  cases hbt : (model prog w).w.params.followText "set-display-star-reads-storage" with
  | false =>
    simp only [hbt, Bool.false_eq_true, if_false]
    refine wpAny_bind (wpAny_typeOf hT ?_)
    simp only [beq_self_eq_true, if_true]
    refine wpAny_bind (wpAny_rule ?_)
    rw [hsys]
    simp only [Bool.false_eq_true, if_false]
    refine wpAny_bind (wpAny_dictEpoch hod hdd ?_)
    refine wpAny_bind (wpAny_dictEntries hod hdd ?_)
    refine wpAny_bind (noRoom hX (by lia) ?_)
    simp only [Std.Legacy.Range.forIn_eq_forIn_range', Std.Legacy.Range.size]
    have hr : (des.size - 0 + 1 - 1) / 1 = des.size := by lia
    rw [hr]
    refine wpAny_bind (star_loop (od := od) (des := des) (dep := dep) (kvs := kvs) (ks := [k0]) hdd hda hK hP (by simp; lia) (fun i s1 R ho1 hb hi => ?_) des.size 0 s (by lia) hod (by simpa [addAll] using hX) fun h' hs hL => ?_)
    · obtain ⟨e, he⟩ : ∃ e, des[i]? = some e := ⟨des[i], Array.getElem?_eq_getElem hi⟩
      refine wpAny_bind (wpAny_dictEntries ho1 hdd ?_)
      rw [he]
      dsimp only
      refine wpAny_bind (wpAny_holding (wpAny_bind (wpAny_mono (hb e he) (fun b s2 hq => wpAny_pure ?_) fun _ _ x => x)))
      refine wpAny_bind (wpAny_dictEpoch hq.1 hdd ?_)
      simp only [bne_self_eq_false, Bool.false_eq_true, if_false]
      exact wpAny_pure hq.2
    · exact wpAny_pure (h h' s.toks (fun b o hb e => hs.extBut b o hb e) hL)
  | true =>
    simp only [hbt, if_true]
    have hm : s.heap.DictAt (PySem.strKind prog w) d kvs dep := ⟨od, des, hod, hex, hdd, hK, hP, hnd⟩
    have hds : d < s.heap.objs.size := Heap.lt_size hod
    have has : a < s.heap.objs.size := let ⟨_, _, _, _, ho, _⟩ := hX.1.set; Heap.lt_size ho
    refine wpAny_bind (wpAny_pyIter_dict hsys hm ?_)
    refine wpAny_bind (wpAny_runValue ?_)
    refine upd_loop (d := d) (a := a) (kvs := kvs) (ks := [k0]) (ep := dep) (h₁ := s.heap) hh (Nat.ne_of_gt has) hda (Nat.ne_of_lt hds) (by simp; lia) (fun h' tk hk hL => ?_) kvs.length 0 _ s.toks (by lia) ⟨_, Heap.get?_push_size _ rfl, rfl, rfl⟩ (hm.push _) (fun b o _ _ e => Heap.get?_push_of_some _ e) ?_
    · exact wpAny_pure (h h' tk (fun b o hb e => hk b o hb (Nat.ne_of_lt (Heap.lt_size e)) e) hL)
    · have e0 : addAll [k0] ((kvs.map (·.1)).take 0) = [k0] := by simp [addAll]
      rw [e0]
      obtain ⟨⟨⟨o, es, ep, t, ho, r⟩, o', es', ep', t', ho', r'⟩, nd⟩ := hX
      exact ⟨⟨⟨o, es, ep, t, Heap.get?_push_of_some _ ho, r⟩, o', es', ep', t', Heap.get?_push_of_some _ ho', r'⟩, nd⟩

theorem s_main {env : Env} {q : Str} {h₀ : Heap} {Q : Bool → Shared → Prop} (hc : s.heap.CodeRec env.code q) (h : ∀ b, Q b s) : wpAny (model prog w) A (inMainModule env) Q E s := by
  obtain ⟨c, o, vs, t, e, ho, hd, _⟩ := hc
  unfold inMainModule
  try dsimp only
  rw [e]
  split
  · exact wpAny_pure (h _)
  · refine wpAny_bind (wpAny_fieldsOf ho hd ?_)
    split
    · exact wpAny_bind (wpAny_askSetting (wpAny_pure (h _)))
    · exact wpAny_pure (h _)

abbrev led0 (prog : Program) (w : World) : Bool := !(model prog w).w.params.followText "set-order"
abbrev set0 (prog : Program) (w : World) : Obj := { cls := .type "set", dict := none, data := .set #[] 0 (.fresh 0 0 (led0 prog w)) }
theorem code_set_newL {Q₁ : Value → Shared → Prop} (h : Q₁ (.ref s.heap.objs.size) { s with heap := s.heap.push (set0 prog w) }) :
    codeAny (model prog w) A (.call (.builtin "set.__new__") ⟨[.type "set"], []⟩) (wants Q₁ E) s := by
  refine codeAny_of_tree ?_
  show wpAny _ A.in1 (do checkBuiltinCall "set.__new__" ⟨[.type "set"], []⟩; again (.builtin "set.__new__" ⟨[.type "set"], []⟩)) _ _ s
  refine wpAny_bind (wpAny_of_eq F.newCall_set_0 (wpAny_pure ⟨plainId_quiet F.plain_set_new _, codeAny_builtin F.entry_set_new ?_⟩))
  rw [Around.under_plainId F.plain_set_new _]
  unfold Builtin.«set.__new__» Builtin.Frozenset.newClass
  have hsub := sub_set_self
  obtain ⟨hp, g, d, tk, os⟩ := s
  dsimp only
  wp_walk
  refine wpAny_askSetting (wpAny_pure ?_)
  dsimp only
  simp only [newObj]
  refine wpAny_bind (wpAny_alloc (wpAny_pure ?_))
  exact wpAny_pure h

set_option maxHeartbeats 1000000 in
set_option maxRecDepth 100000 in
theorem c_set_0 {Q : Value → Shared → Prop} (h : Q (.ref s.heap.objs.size) { s with heap := s.heap.push (set0 prog w) }) : wpAny (model prog w) A (call (.type "set") []) Q E s := by
  obtain ⟨c, tl, hmro⟩ := F.called_set.mro
  have hmade := F.called_set.made
  have hsub := F.called_set.sub
  refine wpAny_call (codeAny_of_tree ?_)
  show wpAny _ _ (callAny (.type "set") _) _ _ _
  refine wpAny_pure ⟨Code.quiet_builtin _ (by decide +kernel), codeAny_builtin F.entry_type_call ?_⟩
  rw [Around.under_plain (weight_type_call_type "set" [] []) rfl]
  have h1 := F.called_set.notType
  have h2 := F.called_set.canCreate
  have hct := F.typeCall_set_0
  have h' : ∀ led, led = led0 prog w → Q (.ref s.heap.objs.size) { s with heap := s.heap.push { cls := .type "set", dict := none, data := .set #[] 0 (.fresh 0 0 led) } } := fun led e => by rw [e]; exact h
  clear h
  obtain ⟨led, hL⟩ : ∃ led, led = led0 prog w := ⟨_, rfl⟩
  replace h' := h' led hL
  repeat (any_goals (first | assumption | wp_step))
  refine codeAny_mono (code_set_newL (E := E) (Q₁ := fun obj s₁ => obj = .ref s.heap.objs.size ∧ s₁ = { s with heap := s.heap.push { cls := .type "set", dict := none, data := .set #[] 0 (.fresh 0 0 led) } }) ⟨rfl, by rw [hL]⟩) fun r s₁ hr => ?_
  cases r with
  | error e => exact hr
  | ok fl =>
    cases fl with
    | ret obj =>
      obtain ⟨rfl, rfl⟩ := hr
      have hS : (s.heap.push { cls := .type "set", dict := none, data := .set #[] 0 (.fresh 0 0 led) }).get? s.heap.objs.size = some { cls := .type "set", dict := none, data := .set #[] 0 (.fresh 0 0 led) } := Heap.get?_push_size _ rfl
      have hT : Shared.TypeIs { s with heap := s.heap.push { cls := .type "set", dict := none, data := .set #[] 0 (.fresh 0 0 led) } } (.ref s.heap.objs.size) "set" := ⟨_, hS, rfl⟩
      have hli := F.called_set.init.lookup
      have hbi := F.called_set.init.bind (.ref s.heap.objs.size)
      repeat (any_goals (first | assumption | wp_step))
      refine codeAny_mono (codeAny_call_builtin (R := wants (fun r s₂ => r = .none ∧ Q (.ref s.heap.objs.size) s₂) E) F.called_set.init.plain F.entry_set_init (check_set_init hT ?_)) fun r₂ s₂ hr₂ => ?_
      · unfold Builtin.«set.__init__» noKeywords
        wp_walk
        exact ⟨rfl, h'⟩
      · cases r₂ with
        | error e => exact hr₂
        | ok fl₂ =>
          cases fl₂ with
          | ret r =>
            obtain ⟨rfl, hq⟩ := hr₂
            repeat (any_goals (first | assumption | wp_step))
          | _ => exact hr₂.elim
    | _ => exact hr.elim

theorem set_led : (!(model prog w).w.params.followText "set-order") = true ∨ byText w := by
  cases hb : w.params.followText "set-order" with
  | true => exact .inr hb
  | false => left; show (!w.params.followText "set-order") = true; rw [hb]; rfl
theorem SetL.fresh' {h : Heap} {a : Addr} {led : Bool} (hl : led = true ∨ byText w) (e : h.get? a = some { cls := .type "set", dict := none, data := .set #[] 0 (.fresh 0 0 led) }) : SetL prog w h a [] :=
  ⟨⟨⟨_, #[], 0, _, e, ⟨rfl, rfl, rfl⟩, rfl, fun e he => by simp at he, fun k => by simp, by decide, by rfl, rfl⟩, _, _, _, _, e, rfl, hl, .inl rfl, fun _ => ⟨rfl, Nat.le_refl 7⟩⟩, .nil⟩
theorem SetL.fresh {h : Heap} {a : Addr} (e : h.get? a = some (set0 prog w)) : SetL prog w h a [] :=
  SetL.fresh' set_led e

/-- {x, *d} -/
theorem s_display {b : Bool} {t1 t2 : Sem Value} {k0 : Str} (hh : A.handled = none)
    (h1 : ∀ {s' : Shared} {Q : Value → Shared → Prop}, (∀ b o, s.heap.get? b = some o → s'.heap.get? b = some o) → s'.os = s.os → s'.gens = s.gens → (∀ u, Q (.str k0 u) s') → wpAny (model prog w) A t1 Q E s')
    (h2 : ∀ {s' : Shared} {Q : Value → Shared → Prop}, (∀ b o, s.heap.get? b = some o → s'.heap.get? b = some o) → s'.os = s.os → s'.gens = s.gens → Q (.ref d) s' → wpAny (model prog w) A t2 Q E s')
    (hD : s.heap.DictOf (PySem.strKind prog w) d kvs) (hsys : (d == sysModules) = false) (hn : kvs.length ≤ 3) {Q : Value → Shared → Prop}
    (h : ∀ h' tk, (∀ b o, s.heap.get? b = some o → h'.get? b = some o) → SetL prog w h' s.heap.objs.size (addAll [k0] (kvs.map (·.1))) → Q (.ref s.heap.objs.size) { s with heap := h', toks := tk }) :
    wpAny (model prog w) A (setDisplay .oneByOne b [(false, t1), (true, t2)]) Q E s := by
  have hds : d < s.heap.objs.size := let ⟨_, _, _, ho, _⟩ := hD; Heap.lt_size ho
  unfold setDisplay
  simp only [show (DisplayRoad.oneByOne == DisplayRoad.constants) = false from rfl, show (DisplayRoad.oneByOne == DisplayRoad.unsure) = false from rfl, Bool.false_eq_true, if_false]
  refine wpAny_bind (newSetX fun h' hk hX hz => ?_)
  dsimp only
  have en : (if ([(false, t1), (true, t2)] : List (Bool × Sem Value)).length > 30 then 0 else (([(false, t1), (true, t2)] : List (Bool × Sem Value)).findIdx? (·.1)).getD ([(false, t1), (true, t2)] : List (Bool × Sem Value)).length) = 1 := by simp [List.findIdx?_cons]
  rw [en]
  simp only [List.take_succ_cons, List.take_zero, List.map_cons, List.map_nil, List.drop_succ_cons, List.drop_zero]
  refine wpAny_bind (wpAny_holding ?_)
  refine wpAny_bind ?_
  show wpAny _ _ (do let v ← t1; return v :: (← holding [v] (evalAll []))) _ _ _
  refine wpAny_bind (h1 hk rfl rfl fun u => (wpAny_bind (wpAny_holding (wpAny_pure (wpAny_pure ?_)))))
  refine wpAny_bind (wpAny_holding ?_)
  rw [List.forIn_cons]
  refine wpAny_bind (wpAny_bind (wpAny_bind (s_setAdd (s := { s with heap := h' }) (ks := []) ⟨hX.congr (fun _ => rfl) rfl, .nil⟩ (by decide) fun b h2' hs2 hL => wpAny_pure ?_)))
  dsimp only
  rw [List.forIn_nil]
  refine wpAny_pure (wpAny_pure ?_)
  rw [List.forIn_cons]
  have hk2 : ∀ b o, s.heap.get? b = some o → h2'.get? b = some o := fun b o e => hs2.extBut b o (Nat.ne_of_lt (Heap.lt_size e)) (hk b o e)
  refine wpAny_bind (wpAny_bind (wpAny_bind (m := t2) (h2 (s' := { s with heap := h2', toks := s.toks + 1 }) hk2 rfl rfl ?_)))
  simp only [if_true]
  have hD2 : h2'.DictOf (PySem.strKind prog w) d kvs := let ⟨o, es, ep, ho, r⟩ := hD; ⟨o, es, ep, hk2 _ _ ho, r⟩
  refine wpAny_bind (wpAny_holding (s_star (s := { s with heap := h2', toks := s.toks + 1 }) hh (k0 := k0) hL hD2 hsys (Nat.ne_of_lt hds) hn fun h3 tk hk3 hL3 => wpAny_pure ?_))
  dsimp only
  rw [List.forIn_nil]
  exact wpAny_pure (wpAny_pure (wpAny_pure (h h3 tk (fun b o e => hk3 b o (Nat.ne_of_lt (Heap.lt_size e)) (hk2 b o e)) hL3)))
end
end Mine
end
section
open PySem PySem.W PyProof.Rows
namespace Mine

/-- built-in methods that are called on a value -/
inductive Pm where
  | lAppend | lPop | lSort | lExtend | lIndex | lClear
  | dItems | dGet | dUpdate
  | sAdd | sInter
  | tJoin | tStrip | tSplit | tRsplit | tStarts | tEnds | tFind | tReplace
  deriving DecidableEq
noncomputable def Pm.id : Pm → String
  | .lAppend => "list.append" | .lPop => "list.pop" | .lSort => "list.sort" | .lExtend => "list.extend" | .lIndex => "list.index" | .lClear => "list.clear"
  | .dItems => "dict.items" | .dGet => "dict.get" | .dUpdate => "dict.update"
  | .sAdd => "set.add" | .sInter => "set.intersection"
  | .tJoin => "str.join" | .tStrip => "str.strip" | .tSplit => "str.split" | .tRsplit => "str.rsplit" | .tStarts => "str.startswith" | .tEnds => "str.endswith" | .tFind => "str.find" | .tReplace => "str.replace"
/-- those that may be bound and kept -/
noncomputable def Pm.obj : Pm → Bool
  | .lAppend => true
  | .tJoin => true
  | _ => false
/-- built-in functions and classes -/
inductive Bf where
  | len | sum | sorted | divmod | chr
  | set | list | dict | str | int | range
  deriving DecidableEq
noncomputable def Bf.val : Bf → Value
  | .len => .builtin "len" | .sum => .builtin "sum" | .sorted => .builtin "sorted" | .divmod => .builtin "divmod" | .chr => .builtin "chr"
  | .set => .type "set" | .list => .type "list" | .dict => .type "dict" | .str => .type "str" | .int => .type "int" | .range => .type "range"

inductive V where
  | none
  | bool (b : Bool)
  | int (i : Int)
  | str (s : Str)
  | tup (xs : List V)
  | ref (i : Nat)
  | fn (a : Addr)
  | bm (p : Pm) (x : V)
  | bf (b : Bf)
  | mt (f : Addr) (x : V)
  | view (i : Nat)

inductive AObj where
  | list (xs : List V)
  | dict (kvs : List (Str × V))
  | ns (kvs : List (Str × V))
  | set (ks : List Str)
  | inst (C : Addr) (d : Nat)
  | tab (P : Addr) (q : Str)

structure Hp where
  f : Nat → AObj
  n : Nat

noncomputable def Hp.alloc (H : Hp) (o : AObj) : Hp := ⟨fun i => if i = H.n then o else H.f i, H.n + 1⟩
noncomputable def Hp.put (H : Hp) (i : Nat) (o : AObj) : Hp := ⟨fun j => if j = i then o else H.f j, H.n⟩

mutual
inductive Rep (n : Nat) (ρ : Nat → Addr) (h : Heap) : Value → V → Prop
  | none : Rep n ρ h .none .none
  | bool (b : Bool) : Rep n ρ h (.bool b) (.bool b)
  | int (i : Int) (t : Tok) : Rep n ρ h (.int i t) (.int i)
  | str (s : Str) (t : Tok) : Rep n ρ h (.str s t) (.str s)
  | ref (i : Nat) : i < n → Rep n ρ h (.ref (ρ i)) (.ref i)
  | fn (a : Addr) : Rep n ρ h (.ref a) (.fn a)
  | tup {a : Addr} {vs : Array Value} {k : Nat} {xs : List V} : h.get? a = some { cls := .type "tuple", data := .seq vs k } → RepL n ρ h vs.toList xs → Rep n ρ h (.ref a) (.tup xs)
  | bm {a : Addr} {p : Pm} {v : Value} {x : V} : p.obj = true → h.get? a = some { cls := .type "builtin_function_or_method", data := .fields #[.builtin p.id, v] } → Rep n ρ h v x → Rep n ρ h (.ref a) (.bm p x)
  | bf (b : Bf) : Rep n ρ h b.val (.bf b)
  | mt {a f : Addr} {v : Value} {x : V} : h.get? a = some { cls := .type "method", data := .fields #[.ref f, v] } → Rep n ρ h v x → Rep n ρ h (.ref a) (.mt f x)
  | view {a : Addr} {i : Nat} : i < n → h.get? a = some { cls := .type "dict_items", data := .fields #[.ref (ρ i)] } → Rep n ρ h (.ref a) (.view i)
inductive RepL (n : Nat) (ρ : Nat → Addr) (h : Heap) : List Value → List V → Prop
  | nil : RepL n ρ h [] []
  | cons {v : Value} {x : V} {vs : List Value} {xs : List V} : Rep n ρ h v x → RepL n ρ h vs xs → RepL n ρ h (v :: vs) (x :: xs)
end

/-- a code object made for a lambda -/
noncomputable def CodeC (h : Heap) (cv : Value) (q : Str) : Prop := ∃ c o vs t, cv = .ref c ∧ h.get? c = some o ∧ o.cls = .type "code" ∧ o.data = .fields vs ∧ vs[1]? = some (.str q t)

noncomputable def RepO (prog : Program) (w : World) (n : Nat) (ρ : Nat → Addr) (h : Heap) (a : Addr) : AObj → Prop
  | .list xs => ∃ vs k, h.get? a = some { cls := .type "list", data := .seq vs k } ∧ RepL n ρ h vs.toList xs
  | .dict kvs => ∃ ps : List (Str × Value), h.DictOf (strKind prog w) a ps ∧ ps.map (·.1) = kvs.map (·.1) ∧ RepL n ρ h (ps.map (·.2)) (kvs.map (·.2))
  | .ns kvs => ∃ es k, h.get? a = some { cls := .type "dict", data := .dict es k } ∧ StrKeys es ∧ es.size ≤ kvs.length ∧ (∀ x v, kvs.lookup x = some v → ∃ u, nsFind es x = some u ∧ Rep n ρ h u v) ∧ ∀ x, kvs.lookup x = none → nsFind es x = none
  | .set ks => SetL prog w h a ks
  | .inst C d => d < n ∧ h.get? a = some { cls := .ref C, dict := some (ρ d), data := .plain }
  | .tab P q => a = P ∧ ∃ ps, h.get? P = some (tabObj ps) ∧ TriplesOk ps.toList ∧ ∀ pos cv, codeAmong pos ps.toList = some cv → CodeC h cv q

/-- the run's fixed part: g is the heap behind the top (all that must stay) -/
structure Cx where
  prog : Program
  w : World
  g : Heap
  os : OsState
  K : Frag
  lam : List (Str × NameKind) → Option (Addr × Addr × Str)

structure Inv (cx : Cx) (ρ : Nat → Addr) (H : Hp) (s : Shared) : Prop where
  keep : ∀ b o, cx.g.get? b = some o → s.heap.get? b = some o
  os : s.os = cx.os
  bare : AllBare s.gens
  objs : ∀ i, i < H.n → RepO cx.prog cx.w H.n ρ s.heap (ρ i) (H.f i)
  inj : ∀ i j, i < H.n → j < H.n → ρ i = ρ j → i = j
  low : ∀ i, i < H.n → cx.g.get? (ρ i) = none
  st : ∃ o, cx.g.get? cStatics = some o
  nsys : ∀ i, i < H.n → ρ i ≠ sysModules

theorem size_ne {h : Heap} {o : Obj} (e : h.get? cStatics = some o) : h.objs.size ≠ sysModules := fun q => by
  have := Heap.lt_size e
  rw [q] at this
  exact absurd this (by decide)
theorem Inv.neS {cx ρ H s} (I : Inv cx ρ H s) : s.heap.objs.size ≠ sysModules := let ⟨_, e⟩ := I.st; size_ne (I.keep _ _ e)
theorem Inv.neX {cx ρ H s} (I : Inv cx ρ H s) {h : Heap} (hk : ∀ a o, s.heap.get? a = some o → h.get? a = some o) : h.objs.size ≠ sysModules := let ⟨_, e⟩ := I.st; size_ne (hk _ _ (I.keep _ _ e))

structure Stp (cx : Cx) (W : Addr → Prop) (ρ : Nat → Addr) (H : Hp) (s : Shared) (ρ' : Nat → Addr) (H' : Hp) (s' : Shared) : Prop where
  inv : Inv cx ρ' H' s'
  le : H.n ≤ H'.n
  agr : ∀ i, i < H.n → ρ' i = ρ i
  fresh : ∀ i, H.n ≤ i → i < H'.n → s.heap.get? (ρ' i) = none
  ext : ∀ a o, s.heap.get? a = some o → (∀ i, i < H.n → ρ i ≠ a) → ¬ W a → s'.heap.get? a = some o

abbrev NoW : Addr → Prop := fun _ => False

theorem RepO.some {p w n ρ h a} {o : AObj} (x : RepO p w n ρ h a o) : ∃ ob, h.get? a = some ob ∧ ob.cls ≠ .type "tuple" ∧ ob.cls ≠ .type "builtin_function_or_method" ∧ ob.cls ≠ .type "method" ∧ ob.cls ≠ .type "dict_items" ∧ ob.cls ≠ .type "code" := by
  cases o with
  | list xs => obtain ⟨vs, k, e, _⟩ := x; exact ⟨_, e, by simp, by simp, by simp, by simp, by simp⟩
  | dict xs => obtain ⟨ps, ⟨o, es, k, e, hc, _⟩, _⟩ := x; exact ⟨_, e, by rw [hc.1]; simp, by rw [hc.1]; simp, by rw [hc.1]; simp, by rw [hc.1]; simp, by rw [hc.1]; simp⟩
  | ns xs => obtain ⟨es, k, e, _⟩ := x; exact ⟨_, e, by simp, by simp, by simp, by simp, by simp⟩
  | set xs => obtain ⟨⟨⟨o, es, k, t, e, hc, _⟩, _⟩, _⟩ := x; exact ⟨_, e, by rw [hc.1]; simp, by rw [hc.1]; simp, by rw [hc.1]; simp, by rw [hc.1]; simp, by rw [hc.1]; simp⟩
  | inst C d => exact ⟨_, x.2, by simp, by simp, by simp, by simp, by simp⟩
  | tab P q => obtain ⟨rfl, ps, e, _⟩ := x; exact ⟨_, e, by simp, by simp, by simp, by simp, by simp⟩

theorem Inv.lt {cx ρ H s} (I : Inv cx ρ H s) {i : Nat} (hi : i < H.n) : ρ i < s.heap.objs.size :=
  let ⟨_, e, _⟩ := (I.objs i hi).some; Heap.lt_size e

/-- objects that never change -/
noncomputable def Fz (o : Obj) : Prop := (o.cls = .type "tuple" ∨ o.cls = .type "builtin_function_or_method" ∨ o.cls = .type "method" ∨ o.cls = .type "dict_items" ∨ o.cls = .type "code") ∧ ((∃ vs k, o.data = .seq vs k) ∨ ∃ vs, o.data = .fields vs)
/-- objects of a frozen class are no mutable object's place -/
theorem Inv.notMut {cx ρ H s} (I : Inv cx ρ H s) {a : Addr} {ob : Obj} (e : s.heap.get? a = some ob)
    (hc : Fz ob) : ∀ i, i < H.n → ρ i ≠ a := by
  rintro i hi rfl
  obtain ⟨ob', e', h1, h2, h3, h4, h5⟩ := (I.objs i hi).some
  rw [e] at e'; cases e'
  rcases hc.1 with h | h | h | h | h
  · exact h1 h
  · exact h2 h
  · exact h3 h
  · exact h4 h
  · exact h5 h

/-- what a heap must keep so that values still read the same -/
structure Kp (n : Nat) (ρ : Nat → Addr) (h : Heap) (n' : Nat) (ρ' : Nat → Addr) (h' : Heap) : Prop where
  le : n ≤ n'
  agr : ∀ i, i < n → ρ' i = ρ i
  fro : ∀ a o, h.get? a = some o → Fz o → h'.get? a = some o

mutual
theorem Rep.mono {n ρ h n' ρ' h'} (K : Kp n ρ h n' ρ' h') : ∀ {v x}, Rep n ρ h v x → Rep n' ρ' h' v x
  | _, _, .none => .none
  | _, _, .bool b => .bool b
  | _, _, .int i t => .int i t
  | _, _, .str i t => .str i t
  | _, _, .ref i hi => by have := Rep.ref (n := n') (ρ := ρ') (h := h') i (Nat.lt_of_lt_of_le hi K.le); rwa [K.agr i hi] at this
  | _, _, .fn a => .fn a
  | _, _, .tup e r => .tup (K.fro _ _ e ⟨.inl rfl, .inl ⟨_, _, rfl⟩⟩) (r.mono K)
  | _, _, .bf b => .bf b
  | _, _, .bm hp e r => .bm hp (K.fro _ _ e ⟨.inr (.inl rfl), .inr ⟨_, rfl⟩⟩) (r.mono K)
  | _, _, .mt e r => .mt (K.fro _ _ e ⟨.inr (.inr (.inl rfl)), .inr ⟨_, rfl⟩⟩) (r.mono K)
  | _, _, .view hi e => .view (Nat.lt_of_lt_of_le hi K.le) (by rw [K.agr _ hi]; exact K.fro _ _ e ⟨.inr (.inr (.inr (.inl rfl))), .inr ⟨_, rfl⟩⟩)
theorem RepL.mono {n ρ h n' ρ' h'} (K : Kp n ρ h n' ρ' h') : ∀ {vs xs}, RepL n ρ h vs xs → RepL n' ρ' h' vs xs
  | _, _, .nil => .nil
  | _, _, .cons a b => .cons (a.mono K) (b.mono K)
end

/-- an object that lies as it lay -/
theorem RepO.mono {p w n ρ h n' ρ' h'} (K : Kp n ρ h n' ρ' h') {a : Addr} {o : AObj} (r : RepO p w n ρ h a o) (e : h'.get? a = h.get? a) : RepO p w n' ρ' h' a o := by
  cases o with
  | list xs => obtain ⟨vs, k, q, l⟩ := r; exact ⟨vs, k, e.trans q, l.mono K⟩
  | dict xs => obtain ⟨ps, ⟨o, es, k, q, hr⟩, hn, l⟩ := r; exact ⟨ps, ⟨o, es, k, e.trans q, hr⟩, hn, l.mono K⟩
  | ns xs =>
    obtain ⟨es, k, q, h0, h0', h1, h2⟩ := r
    exact ⟨es, k, e.trans q, h0, h0', fun x v z => let ⟨u, a, b⟩ := h1 x v z; ⟨u, a, b.mono K⟩, h2⟩
  | set xs => obtain ⟨⟨⟨o, es, k, t, q, hc⟩, o', es', k', t', q', hc'⟩, l⟩ := r; exact ⟨⟨⟨o, es, k, t, e.trans q, hc⟩, o', es', k', t', e.trans q', hc'⟩, l⟩
  | inst C d => exact ⟨Nat.lt_of_lt_of_le r.1 K.le, by rw [K.agr _ r.1]; exact e.trans r.2⟩
  | tab P q =>
    obtain ⟨rfl, ps, e1, e2, e3⟩ := r
    exact ⟨rfl, ps, e.trans e1, e2, fun pos cv z => let ⟨c, o, vs, t, a1, a2, a3, a4⟩ := e3 pos cv z; ⟨c, o, vs, t, a1, K.fro _ _ a2 ⟨.inr (.inr (.inr (.inr a3))), .inr ⟨_, a4.1⟩⟩, a3, a4⟩⟩

theorem Stp.kp {cx W ρ H s ρ' H' s'} (I : Inv cx ρ H s) (S : Stp cx W ρ H s ρ' H' s') (hW : ∀ a o, s.heap.get? a = some o → Fz o → ¬ W a) :
    Kp H.n ρ s.heap H'.n ρ' s'.heap := ⟨S.le, S.agr, fun a o e hc => S.ext a o e (I.notMut e hc) (hW a o e hc)⟩

theorem Stp.refl {cx ρ H s} (W) (I : Inv cx ρ H s) : Stp cx W ρ H s ρ H s :=
  ⟨I, Nat.le_refl _, fun _ _ => rfl, fun i h1 h2 => absurd h2 (Nat.not_lt.mpr h1), fun _ _ e _ _ => e⟩

/-- an object that lay is not a new one's place -/
theorem Stp.old {cx W ρ H s ρ' H' s'} (S : Stp cx W ρ H s ρ' H' s') {a : Addr} {o : Obj} (e : s.heap.get? a = some o) (hm : ∀ i, i < H.n → ρ i ≠ a) : ∀ i, i < H'.n → ρ' i ≠ a := fun i hi q => by
  by_cases h : i < H.n
  · rw [S.agr i h] at q; exact hm i h q
  · have := S.fresh i (Nat.le_of_not_lt h) hi
    rw [q, e] at this; cases this

theorem Stp.transW {cx W ρ H s ρ' H' s' ρ'' H'' s''} (S : Stp cx W ρ H s ρ' H' s') (T : Stp cx W ρ' H' s' ρ'' H'' s'') (hW : ∀ i, H'.n ≤ i → i < H''.n → ¬ W (ρ'' i)) : Stp cx W ρ H s ρ'' H'' s'' :=
  ⟨T.inv, Nat.le_trans S.le T.le, fun i hi => (T.agr i (Nat.lt_of_lt_of_le hi S.le)).trans (S.agr i hi),
   fun i h1 h2 => by
    by_cases h : i < H'.n
    · rw [T.agr i h]; exact S.fresh i h1 h
    · have hf := T.fresh i (Nat.le_of_not_lt h) h2
      cases e : s.heap.get? (ρ'' i) with
      | none => rfl
      | some o =>
        by_cases hm : ∀ j, j < H.n → ρ j ≠ ρ'' i
        · rw [S.ext _ o e hm (hW i (Nat.le_of_not_lt h) h2)] at hf; cases hf
        · exfalso
          refine hm fun j hj q => ?_
          have h3 : ρ'' j = ρ'' i := by rw [T.agr j (Nat.lt_of_lt_of_le hj S.le), S.agr j hj, q]
          have := T.inv.inj j i (Nat.lt_of_lt_of_le (Nat.lt_of_lt_of_le hj S.le) T.le) h2 h3
          lia,
   fun a o e hm hw => T.ext a o (S.ext a o e hm hw) (S.old e hm) hw⟩

theorem Stp.trans {cx ρ H s ρ' H' s' ρ'' H'' s''} (S : Stp cx NoW ρ H s ρ' H' s') (T : Stp cx NoW ρ' H' s' ρ'' H'' s'') : Stp cx NoW ρ H s ρ'' H'' s'' := S.transW T fun _ _ _ x => x

theorem Stp.weaken {cx W W' ρ H s ρ' H' s'} (S : Stp cx W ρ H s ρ' H' s') (h : ∀ a, W a → W' a) : Stp cx W' ρ H s ρ' H' s' :=
  ⟨S.inv, S.le, S.agr, S.fresh, fun a o e hm hw => S.ext a o e hm fun x => hw (h a x)⟩

/-- a heap that only grew (garbage, temporaries, tokens) -/
theorem Stp.grown {cx ρ H s s'} (W) (I : Inv cx ρ H s) (hk : ∀ a o, s.heap.get? a = some o → s'.heap.get? a = some o)
    (hos : s'.os = s.os) (hb : AllBare s'.gens) : Stp cx W ρ H s ρ H s' := by
  have K : Kp H.n ρ s.heap H.n ρ s'.heap := ⟨Nat.le_refl _, fun _ _ => rfl, fun a o e _ => hk a o e⟩
  refine ⟨⟨fun b o e => hk b o (I.keep b o e), hos.trans I.os, hb, fun i hi => ?_, I.inj, I.low, I.st, I.nsys⟩, Nat.le_refl _, fun _ _ => rfl, fun i h1 h2 => absurd h2 (Nat.not_lt.mpr h1), fun a o e _ _ => hk a o e⟩
  obtain ⟨ob, e, _⟩ := (I.objs i hi).some
  exact (I.objs i hi).mono K ((hk _ _ e).trans e.symm)

/-- one mutable object is stored anew at its place -/
theorem Stp.put {cx ρ H s s'} (W) (I : Inv cx ρ H s) {i : Nat} {o : AObj} (hi : i < H.n) (hs : Heap.SameBut (ρ i) s.heap s'.heap)
    (ho : RepO cx.prog cx.w H.n ρ s'.heap (ρ i) o) (hos : s'.os = s.os) (hb : AllBare s'.gens) : Stp cx W ρ H s ρ (H.put i o) s' := by
  have K : Kp H.n ρ s.heap H.n ρ s'.heap := ⟨Nat.le_refl _, fun _ _ => rfl, fun a o e hc => hs.extBut a o (fun q => I.notMut e hc i hi q.symm) e⟩
  refine ⟨⟨fun b o e => hs.extBut b o (fun q => ?_) (I.keep b o e), hos.trans I.os, hb, fun j hj => ?_, I.inj, I.low, I.st, I.nsys⟩, Nat.le_refl _, fun _ _ => rfl, fun i h1 h2 => absurd h2 (Nat.not_lt.mpr h1), fun a o e hm _ => hs.extBut a o (fun q => hm i hi q.symm) e⟩
  · subst q
    rw [I.low i hi] at e; cases e
  · show RepO _ _ H.n ρ _ (ρ j) (if j = i then o else H.f j)
    by_cases h : j = i
    · subst h; rw [if_pos rfl]; exact ho
    · rw [if_neg h]
      exact (I.objs j hj).mono K (hs.2 _ fun q => h (I.inj j i hj hi q))

/-- a new mutable object; a is its place, new behind s -/
theorem Stp.new {cx ρ H s s'} (W) (I : Inv cx ρ H s) {a : Addr} {o : AObj} (ha : s.heap.get? a = none) (hsy : a ≠ sysModules) (hk : ∀ a o, s.heap.get? a = some o → s'.heap.get? a = some o)
    (ho : RepO cx.prog cx.w (H.n + 1) (fun j => if j = H.n then a else ρ j) s'.heap a o) (hos : s'.os = s.os) (hb : AllBare s'.gens) : Stp cx W ρ H s (fun j => if j = H.n then a else ρ j) (H.alloc o) s' := by
  have agr : ∀ i, i < H.n → (fun j => if j = H.n then a else ρ j) i = ρ i := fun i hi => if_neg (Nat.ne_of_lt hi)
  have K : Kp H.n ρ s.heap (H.n + 1) (fun j => if j = H.n then a else ρ j) s'.heap := ⟨Nat.le_succ _, agr, fun a o e _ => hk a o e⟩
  have low : ∀ i, i < H.n → ρ i ≠ a := fun i hi q => by
    obtain ⟨ob, e, _⟩ := (I.objs i hi).some
    rw [q, ha] at e; cases e
  have hg : cx.g.get? a = none := by
    cases e : cx.g.get? a with
    | none => rfl
    | some o => rw [I.keep a o e] at ha; cases ha
  have ns : ∀ i, i < H.n + 1 → (if i = H.n then a else ρ i) ≠ sysModules := fun i hi => by
    by_cases h : i = H.n
    · rw [if_pos h]; exact hsy
    · rw [if_neg h]; exact I.nsys i (Nat.lt_of_le_of_ne (Nat.le_of_lt_succ hi) h)
  refine ⟨⟨fun b o e => hk b o (I.keep b o e), hos.trans I.os, hb, fun i hi => ?_, fun i j hi hj q => ?_, fun i hi => ?_, I.st, ns⟩, Nat.le_succ _, agr, fun i h1 h2 => ?_, fun a o e _ _ => hk a o e⟩
  · show RepO _ _ (H.n + 1) _ _ (if i = H.n then a else ρ i) (if i = H.n then o else H.f i)
    by_cases h : i = H.n
    · rw [if_pos h, if_pos h]; exact ho
    · rw [if_neg h, if_neg h]
      have hi' : i < H.n := Nat.lt_of_le_of_ne (Nat.le_of_lt_succ hi) h
      obtain ⟨ob, e, _⟩ := (I.objs i hi').some
      exact (I.objs i hi').mono K ((hk _ _ e).trans e.symm)
  · replace q : (if i = H.n then a else ρ i) = (if j = H.n then a else ρ j) := q
    by_cases h : i = H.n <;> by_cases h' : j = H.n
    · rw [h, h']
    · rw [if_pos h, if_neg h'] at q
      exact absurd q.symm (low j (Nat.lt_of_le_of_ne (Nat.le_of_lt_succ hj) h'))
    · rw [if_neg h, if_pos h'] at q
      exact absurd q (low i (Nat.lt_of_le_of_ne (Nat.le_of_lt_succ hi) h))
    · rw [if_neg h, if_neg h'] at q
      exact I.inj i j (Nat.lt_of_le_of_ne (Nat.le_of_lt_succ hi) h) (Nat.lt_of_le_of_ne (Nat.le_of_lt_succ hj) h') q
  · show cx.g.get? (if i = H.n then a else ρ i) = none
    by_cases h : i = H.n
    · rw [if_pos h]; exact hg
    · rw [if_neg h]; exact I.low i (Nat.lt_of_le_of_ne (Nat.le_of_lt_succ hi) h)
  · have : i = H.n := Nat.le_antisymm (Nat.le_of_lt_succ h2) h1
    show s.heap.get? (if i = H.n then a else ρ i) = none
    rw [if_pos this]; exact ha

theorem get?_size (h : Heap) : h.get? h.objs.size = none := by
  cases e : h.get? h.objs.size with
  | none => rfl
  | some o => exact absurd (Heap.lt_size e) (Nat.lt_irrefl _)

abbrev HasSys (cx : Cx) : Prop := ∃ o, cx.g.get? cStatics = some o

end Mine
end
section
open PySem PySem.W PyProof.Rows
namespace Mine

abbrev Sc := List (Str × NameKind)
abbrev Loc := List (Str × V)

inductive Fl where
  | next | brk | cont
  | ret (v : V)

inductive Src where
  | arg (i : Nat) | kw (i : Nat) | dflt (v : V)

noncomputable def Src.get (args kws : List V) : Src → V
  | .arg i => args.getD i .none
  | .kw i => kws.getD i .none
  | .dflt v => v

structure Pe where
  glob : Str → Option V
  fn : Addr → Option FuncData
  sig : Addr → Nat → List Str → List (Str × Src) → Prop
  cls : Addr → Str → Option (Option Addr)
  init : Addr → Option Addr
  lam : Sc → Option (Addr × Addr × Str)
  nsm : Option (List (Str × Str))
  lst : Addr → Option (List Int)

noncomputable def setL : Loc → Str → V → Loc
  | [], x, v => [(x, v)]
  | (y, u) :: r, x, v => if y = x then (x, v) :: r else (y, u) :: setL r x v

noncomputable def lookK (pe : Pe) (loc : Loc) (x : Str) : Option NameKind → Option V
  | some .local => loc.lookup x
  | some .cell => loc.lookup x
  | some .free => loc.lookup x
  | some .globalImplicit => pe.glob x
  | _ => none
noncomputable def look (pe : Pe) (sc : Sc) (loc : Loc) (x : Str) : Option V :=
  if x = "__debug__" ∨ x = "__classdict__" then none else lookK pe loc x (sc.lookup x)

noncomputable def cst : Const → Option V
  | .none => some .none
  | .bool b => some (.bool b)
  | .int i => some (.int i)
  | .str s => some (.str s)
  | _ => none

noncomputable def lim : Nat := 16777216

noncomputable def truthO : AObj → Option Bool
  | .list xs => if xs.length ≤ lim then some (!xs.isEmpty) else none
  | .dict kvs => if kvs.length ≤ lim then some (!kvs.isEmpty) else none
  | _ => none
noncomputable def truth (H : Hp) : V → Option Bool
  | .none => some false
  | .bool b => some b
  | .int i => some (i != 0)
  | .str s => if s.length ≤ lim then some (s.length != 0) else none
  | .tup xs => if xs.length ≤ lim then some (!xs.isEmpty) else none
  | .ref i => truthO (H.f i)
  | _ => none

/-- the binary operators -/
inductive Bin (H : Hp) : Operator → V → V → V → Hp → Prop
  | addS {x y : Str} : x.length + y.length ≤ lim → Bin H .Add (.str x) (.str y) (.str (x ++ y)) H
  | addI {x y : Int} : Bin H .Add (.int x) (.int y) (.int (x + y)) H
  | subI {x y : Int} : Bin H .Sub (.int x) (.int y) (.int (x - y)) H
  | divI {x y : Int} : 0 < y ∧ y < 2 ^ 30 → Bin H .FloorDiv (.int x) (.int y) (.int (x / y)) H
  | modI {x y : Int} : 0 < y ∧ y < 2 ^ 30 → Bin H .Mod (.int x) (.int y) (.int (x % y)) H
  | addL {i j : Nat} {xs ys : List V} {H' : Hp} : H.f i = .list xs → H.f j = .list ys → xs.length + ys.length ≤ lim → H.alloc (.list (xs ++ ys)) = H' → Bin H .Add (.ref i) (.ref j) (.ref H.n) H'
  | mulL {i : Nat} {k : Int} {xs : List V} {H' : Hp} : H.f i = .list xs → 0 ≤ k ∧ xs.length * k.toNat ≤ lim ∧ k < 2 ^ 30 → H.alloc (.list (List.replicate k.toNat xs).flatten) = H' → Bin H .Mult (.ref i) (.int k) (.ref H.n) H'

noncomputable def strsOf : List V → Option (List Str)
  | [] => some []
  | .str s :: r => (strsOf r).map (s :: ·)
  | _ :: _ => none
noncomputable def boolsOf : List V → Option (List Bool)
  | [] => some []
  | .bool s :: r => (boolsOf r).map (s :: ·)
  | _ :: _ => none
noncomputable def intsOf : List V → Option (List Int)
  | [] => some []
  | .int i :: r => (intsOf r).map (i :: ·)
  | _ :: _ => none

/-- x in y -/
inductive InV (H : Hp) : V → V → Bool → Prop
  | str {x y : Str} : InV H (.str x) (.str y) (Txt.contains y x)
  | set {x : Str} {i : Nat} {ks : List Str} : H.f i = .set ks → InV H (.str x) (.ref i) (ks.contains x)
  | dict {x : Str} {i : Nat} {kvs : List (Str × V)} : H.f i = .dict kvs → InV H (.str x) (.ref i) ((kvs.map (·.1)).contains x)
  | lstr {x : Str} {i : Nat} {xs : List V} {l : List Str} : H.f i = .list xs → strsOf xs = some l → InV H (.str x) (.ref i) (l.contains x)
  | lbool {x : Bool} {i : Nat} {xs : List V} {l : List Bool} : H.f i = .list xs → boolsOf xs = some l → InV H (.bool x) (.ref i) (l.contains x)
/-- x == y -/
inductive EqV (H : Hp) : V → V → Bool → Prop
  | str {x y : Str} : EqV H (.str x) (.str y) (x == y)
  | int {x y : Int} : EqV H (.int x) (.int y) (x == y)
  | bool {x y : Bool} : EqV H (.bool x) (.bool y) (x == y)
  | dict0 {i j : Nat} {kvs : List (Str × V)} : H.f i = .dict kvs → H.f j = .dict [] → EqV H (.ref i) (.ref j) kvs.isEmpty
noncomputable def isNone : V → Bool
  | .none => true
  | _ => false
/-- comparisons -/
inductive Cmp (H : Hp) : CmpOp → V → V → Bool → Prop
  | eq {a b : V} {r : Bool} : EqV H a b r → Cmp H .Eq a b r
  | ne {a b : V} {r : Bool} : EqV H a b r → Cmp H .NotEq a b (!r)
  | lt {x y : Int} : Cmp H .Lt (.int x) (.int y) (decide (x < y))
  | le {x y : Int} : Cmp H .LtE (.int x) (.int y) (decide (x ≤ y))
  | gt {x y : Int} : Cmp H .Gt (.int x) (.int y) (decide (x > y))
  | ge {x y : Int} : Cmp H .GtE (.int x) (.int y) (decide (x ≥ y))
  | is {a : V} : Cmp H .Is a .none (isNone a)
  | isnt {a : V} : Cmp H .IsNot a .none (!isNone a)
  | inn {a b : V} {r : Bool} : InV H a b r → Cmp H .In a b r
  | nin {a b : V} {r : Bool} : InV H a b r → Cmp H .NotIn a b (!r)

noncomputable def listTab : List (Str × Pm) := [("append", .lAppend), ("pop", .lPop), ("sort", .lSort)]
noncomputable def dictTab : List (Str × Pm) := [("items", .dItems), ("get", .dGet)]
noncomputable def setTab : List (Str × Pm) := [("add", .sAdd)]
noncomputable def strTab : List (Str × Pm) := [("join", .tJoin), ("strip", .tStrip), ("rsplit", .tRsplit), ("split", .tSplit)]

/-- an instance's attribute -/
noncomputable def fldN (pe : Pe) (name : Str) (i : Nat) (C : Addr) : AObj → Option V
  | .ns kvs => (pe.cls C name).bind fun m => (kvs.lookup name).or (m.map fun f => .mt f (.ref i))
  | _ => none
noncomputable def attrR (pe : Pe) (H : Hp) (name : Str) (i : Nat) : AObj → Option V
  | .inst C d => fldN pe name i C (H.f d)
  | .list _ => (listTab.lookup name).map fun p => .bm p (.ref i)
  | .dict _ => (dictTab.lookup name).map fun p => .bm p (.ref i)
  | .set _ => (setTab.lookup name).map fun p => .bm p (.ref i)
  | _ => none
/-- an attribute of a value that is called -/
noncomputable def attr (pe : Pe) (H : Hp) (name : Str) : V → Option V
  | .ref i => attrR pe H name i (H.f i)
  | .str s => (strTab.lookup name).map fun p => .bm p (.str s)
  | _ => none
noncomputable def fldR (pe : Pe) (H : Hp) (name : Str) (i : Nat) : AObj → Option V
  | .inst C d => fldN pe name i C (H.f d)
  | _ => none
noncomputable def fld (pe : Pe) (H : Hp) (name : Str) : V → Option V
  | .ref i => fldR pe H name i (H.f i)
  | _ => none

/-- items of what is walked, and the object that must stand while it is walked -/
noncomputable def itemsO (i : Nat) : AObj → Option (List V × Option Nat)
  | .list xs => some (xs, some i)
  | _ => none
noncomputable def items (H : Hp) : V → Option (List V × Option Nat)
  | .ref i => itemsO i (H.f i)
  | .tup xs => some (xs, none)
  | _ => none

noncomputable def stands (H H' : Hp) : Option Nat → Prop
  | none => True
  | some i => H'.f i = H.f i

noncomputable def ekind : Expr → Nat
  | .Starred _ _ => 1
  | .Set _ _ _ => 2
  | .ListComp _ _ _ _ => 3
  | .SetComp _ _ _ _ => 3
  | .DictComp _ _ _ _ _ => 3
  | .Slice _ _ _ _ => 4
  | .UnaryOp .Not _ _ => 5
  | .BoolOp _ _ _ => 5
  | .IfExp _ _ _ _ => 5
  | .Compare _ _ _ _ => 5
  | _ => 0
noncomputable def isStar (e : Expr) : Bool := Nat.beq (ekind e) 1
noncomputable def isSetE (e : Expr) : Bool := Nat.beq (ekind e) 2
noncomputable def isCompE (e : Expr) : Bool := Nat.beq (ekind e) 3
noncomputable def isSlice (e : Expr) : Bool := Nat.beq (ekind e) 4
noncomputable def plainT (e : Expr) : Bool := Nat.ble (ekind e) 4
noncomputable def isSuper : Expr → Bool
  | .Call (.Name id _) [] [] _ => id == "super"
  | _ => false
noncomputable def isName : Expr → Option Str
  | .Name id _ => some id
  | _ => none

noncomputable def unpO : AObj → Option (List V)
  | .list xs => some xs
  | _ => none
noncomputable def unp (H : Hp) : V → Option (List V)
  | .tup xs => some xs
  | .ref i => unpO (H.f i)
  | _ => none

/-- a name that is stored in its own frame -/
noncomputable def ownK : Option NameKind → Bool
  | some .local => true
  | some .cell => true
  | _ => false
noncomputable def own (sc : Sc) (id : Str) : Bool := ownK (sc.lookup id)
noncomputable def bindTs (sc : Sc) : List Expr → List V → Loc → Option Loc
  | [], [], loc => some loc
  | t :: ts, v :: vs, loc => (isName t).bind fun id => if own sc id then bindTs sc ts vs (setL loc id v) else none
  | _, _, _ => none
/-- bind a target that is a name or a tuple of names -/
noncomputable def bindT (sc : Sc) (H : Hp) : Expr → V → Loc → Option Loc
  | .Name id _, v, loc => if own sc id then some (setL loc id v) else none
  | .Tuple ts _ _, v, loc => (unp H v).bind fun xs => bindTs sc ts xs loc
  | _, _, _ => none
noncomputable def tnames : Expr → List Str
  | .Name id _ => [id]
  | .Tuple ts _ _ => ts.filterMap isName
  | _ => []

/-- the names that a comprehension sees from around it -/
noncomputable def compK (sc names : Sc) (x : Str) : NameKind → Bool
  | .cell => false
  | .free => sc.lookup x == some .cell
  | .local => names.lookup x == some .local
  | _ => true
noncomputable def compOk (pe : Pe) (sc : Sc) (scope : Scope) : Bool := decide (scope.kind = .function) && (pe.lam scope.names).isNone && scope.names.all fun p => compK sc scope.names p.1 p.2
noncomputable def around (names : Sc) (loc : Loc) : Loc := loc.filter fun p => names.lookup p.1 == some .free

noncomputable def atIdx (xs : List V) (k : Int) : Option V := if ¬ (-1000000 < k ∧ k < 1000000) then none else if 0 ≤ k then xs[k.toNat]? else if -k ≤ xs.length then xs[(xs.length + k).toNat]? else none

noncomputable def idxO : AObj → V → Option V
  | .list xs, .int k => atIdx xs k
  | .dict kvs, .str k => kvs.lookup k
  | _, _ => none
noncomputable def index (H : Hp) : V → V → Option V
  | .ref i, k => idxO (H.f i) k
  | .tup xs, .int k => atIdx xs k
  | _, _ => none

noncomputable def cutV (xs : List V) (lo hi st : Option Int) : List V :=
  (sliceRange (sliceBounds lo hi st xs.length).1 (sliceBounds lo hi st xs.length).2.1 (sliceBounds lo hi st xs.length).2.2).filterMap (xs[·]?)

inductive Slc (pe : Pe) (H : Hp) : V → Option Int → Option Int → Option Int → V → Hp → Prop
  | lst {a : Addr} {is : List Int} {lo hi st : Option Int} {H' : Hp} : pe.lst a = some is → st ≠ some 0 → H.alloc (.list (cutV (is.map .int) lo hi st)) = H' → Slc pe H (.fn a) lo hi st (.ref H.n) H'
  | list {i : Nat} {xs : List V} {lo hi st : Option Int} {H' : Hp} : H.f i = .list xs → st ≠ some 0 → xs.length ≤ lim → H.alloc (.list (cutV xs lo hi st)) = H' → Slc pe H (.ref i) lo hi st (.ref H.n) H'
  | str {s : Str} {lo hi : Option Int} : s.length ≤ lim → Slc pe H (.str s) lo hi none (.str (Txt.slice s lo hi)) H

noncomputable def ltS (a b : Str) : Bool := decide (a.cps.toList < b.cps.toList)
noncomputable def ltK : List Str → List Str → Bool
  | [], [] => false
  | [], _ :: _ => true
  | _ :: _, [] => false
  | a :: r, b :: q => if a = b then ltK r q else ltS a b
noncomputable def insK {α : Type} (key : α → List Str) (x : α) : List α → List α
  | [] => [x]
  | y :: r => if ltK (key x) (key y) then x :: y :: r else y :: insK key x r
noncomputable def sortK {α : Type} (key : α → List Str) : List α → List α
  | [] => []
  | x :: r => insK key x (sortK key r)
/-- what the sort below takes: strs, or pairs of strs -/
noncomputable def pairKey : V → List Str
  | .tup [.str a, .str b] => [a, b]
  | .str a => [a]
  | _ => []
noncomputable def isS : V → Bool
  | .str _ => true
  | _ => false
noncomputable def isPr : List V → Bool
  | [a, b] => isS a && isS b
  | _ => false
noncomputable def isPairV : V → Bool
  | .tup xs => isPr xs
  | _ => false
/-- ys is xs sorted -/
structure SortV (xs ys : List V) : Prop where
  kind : xs.all isPairV = true
  few : xs.length < 3
  nd : (xs.map pairKey).Nodup
  eq : sortK pairKey xs = ys

noncomputable def putD (H : Hp) (d : Nat) (k : Str) (v : V) : AObj → Option Hp
  | .dict kvs => if kvs.length < lim then some (H.put d (.dict (setL kvs k v))) else none
  | _ => none
noncomputable def putN (H : Hp) (d : Nat) (k : Str) (v : V) : AObj → Option Hp
  | .ns kvs => if kvs.length < 1000 then some (H.put d (.ns (setL kvs k v))) else none
  | _ => none
noncomputable def instO (pe : Pe) (name : Str) : AObj → Option Nat
  | .inst C d => (pe.cls C name).map fun _ => d
  | _ => none
noncomputable def instOf (pe : Pe) (H : Hp) (name : Str) : V → Option Nat
  | .ref i => instO pe name (H.f i)
  | _ => none

/-- a built-in method's call -/
inductive Prm (H : Hp) : Pm → V → List V → V → Hp → Prop
  | pv_append {i : Nat} {xs : List V} {v : V} {H1 : Hp} : H.f i = .list xs → xs.length < lim → H.put i (.list (xs ++ [v])) = H1 → Prm H .lAppend (.ref i) [v] .none H1
  | pv_pop {i : Nat} {xs : List V} {v : V} {H1 : Hp} : H.f i = .list xs → xs.getLast? = some v → xs.length ≤ lim → H.put i (.list xs.dropLast) = H1 → Prm H .lPop (.ref i) [] v H1
  | pv_sort {i : Nat} {xs ys : List V} {H1 : Hp} : H.f i = .list xs → SortV xs ys → H.put i (.list ys) = H1 → Prm H .lSort (.ref i) [] .none H1
  | pv_items {i : Nat} {kvs : List (Str × V)} : H.f i = .dict kvs → Prm H .dItems (.ref i) [] (.view i) H
  | pv_get {i : Nat} {kvs : List (Str × V)} {k : Str} : H.f i = .dict kvs → Prm H .dGet (.ref i) [.str k] ((kvs.lookup k).getD .none) H
  | pv_sadd {i : Nat} {ks : List Str} {k : Str} {H1 : Hp} : H.f i = .set ks → ks.length < 1000 → H.put i (.set (addL ks k)) = H1 → Prm H .sAdd (.ref i) [.str k] .none H1
  | pv_join {i : Nat} {xs : List V} {l : List Str} {x : Str} : H.f i = .list xs → strsOf xs = some l → JoinOk x l = true → Prm H .tJoin (.str x) [.ref i] (.str (Txt.join x l)) H
  | pv_split {x y : Str} {k : Int} {H1 : Hp} : y.length ≠ 0 ∧ x.length + 2 ≤ lim ∧ 0 ≤ k ∧ k < 1000 → H.alloc (.list ((Txt.splitMax x y k).map .str)) = H1 → Prm H .tSplit (.str x) [.str y, .int k] (.ref H.n) H1
  | pv_rsplit {x y : Str} {k : Int} {H1 : Hp} : y.length ≠ 0 ∧ x.length + 2 ≤ lim ∧ 0 ≤ k ∧ k < 1000 → H.alloc (.list ((Txt.rsplitMax x y k).map .str)) = H1 → Prm H .tRsplit (.str x) [.str y, .int k] (.ref H.n) H1
  | pv_strip {x : Str} : x.length ≤ lim → Prm H .tStrip (.str x) [] (.str (Txt.strip x)) H

/-- a built-in function's call -/
inductive PrF (pe : Pe) (H : Hp) : Bf → List V → V → Hp → Prop
  | fv_lenL {a : Addr} {is : List Int} : pe.lst a = some is → PrF pe H .len [.fn a] (.int is.length) H
  | fv_len {i : Nat} {xs : List V} : H.f i = .list xs → xs.length ≤ lim → PrF pe H .len [.ref i] (.int xs.length) H
  | fv_dict {i : Nat} {kvs : List (Str × V)} {H1 : Hp} : H.f i = .dict kvs → kvs.length ≤ lim → H.alloc (.dict kvs) = H1 → PrF pe H .dict [.ref i] (.ref H.n) H1
  | fv_sum {i : Nat} {xs : List V} {l : List Int} : H.f i = .list xs → intsOf xs = some l → PrF pe H .sum [.ref i] (.int l.sum) H
  | fv_set {H1 : Hp} : H.alloc (.set []) = H1 → PrF pe H .set [] (.ref H.n) H1
  | fv_sorted {i : Nat} {kvs : List (Str × V)} {ys : List V} {H1 : Hp} : H.f i = .dict kvs → SortV (kvs.map fun p => .tup [.str p.1, p.2]) ys → H.alloc (.list ys) = H1 → PrF pe H .sorted [.view i] (.ref H.n) H1

noncomputable def augOk : V → Bool
  | .str _ => true
  | .int _ => true
  | _ => false

noncomputable def callable (pe : Pe) : V → Bool
  | .fn a => (pe.fn a).isSome || (pe.init a).isSome
  | .mt g _ => (pe.fn g).isSome
  | .bm _ _ => true
  | .bf _ => true
  | _ => false

/-- the key that the code above sorts names by -/
noncomputable def brace : Str := ⟨#[125]⟩
noncomputable def nameKey (n : Str) : List Str := Txt.splitMax n brace 1
noncomputable def nsMapName : Str := "_namespace_map"

/-- an attribute that may be had as a value -/
noncomputable def keepable (_ : V) : Bool := true
noncomputable def flV : Fl → Option V
  | .ret v => some v
  | .next => some .none
  | _ => none
noncomputable def isNext : Fl → Bool
  | .next => true
  | _ => false
noncomputable def goesOn : Fl → Bool
  | .next => true
  | .cont => true
  | _ => false

/-- stores that are exchanged: a, b = x, y -/
noncomputable def swapT (sc : Sc) (line : Nat) : Expr → Bool
  | .Name id pos => (sc.lookup id == some .local) && pos.line == line
  | _ => false
noncomputable def swapOk (sc : Sc) (ts vs : List Expr) : Bool :=
  (ts.length == 2 || ts.length == 3) && vs.length == ts.length && !(vs.any fun | .Starred .. => true | _ => false) && ts.all (swapT sc ((ts.head?.map (·.pos.line)).getD 0)) &&
  (ts.filterMap isName).eraseDups.length == (ts.filterMap isName).length && decide (ts.filterMap isName).Nodup && !vs.all (foldedForSure 8) && !vs.all (constantsAlone 8)

/-- what a comprehension lays: an item, or a key and its value -/
inductive Em where
  | el (e : Expr)
  | kv (k v : Expr)

/-- what is run -/
inductive Tk where
  | e (sc : Sc) (loc : Loc) (e : Expr) (H : Hp)
  | t (sc : Sc) (loc : Loc) (e : Expr) (H : Hp)
  | cp (sc : Sc) (loc : Loc) (e : Expr) (H : Hp)
  | x (sc : Sc) (st : Stmt) (loc : Loc) (H : Hp)
  | xs (sc : Sc) (body : List Stmt) (loc : Loc) (H : Hp)
  | c (f : V) (args : List V) (kws : List (Str × V)) (H : Hp)
  | run (f : Addr) (args : List V) (kws : List (Str × V)) (H : Hp)
  | l (sc : Sc) (loc : Loc) (es : List Expr) (H : Hp)
  | kw (sc : Sc) (loc : Loc) (ks : List Keyword) (H : Hp)
  | ifs (sc : Sc) (loc : Loc) (es : List Expr) (H : Hp)
  | opt (sc : Sc) (loc : Loc) (a : Option Expr) (H : Hp)
  | join (sc : Sc) (loc : Loc) (es : List Expr) (out : Str) (H : Hp)
  | bool (sc : Sc) (loc : Loc) (op : BoolOp) (es : List Expr) (H : Hp)
  | test (sc : Sc) (loc : Loc) (op : BoolOp) (es : List Expr) (H : Hp)
  | asg (sc : Sc) (t : Expr) (v : V) (loc : Loc) (H : Hp)
  | asgs (sc : Sc) (ts : List Expr) (v : V) (loc : Loc) (H : Hp)
  | for (sc : Sc) (target : Expr) (body : List Stmt) (src : Option Nat) (H0 : Hp) (xs : List V) (loc : Loc) (H : Hp)
  | cl (sc : Sc) (em : Em) (gens : List Comprehension) (target : Expr) (ifs : List Expr) (loc : Loc) (src : Option Nat) (H0 : Hp) (xs : List V) (H : Hp)
  | inn (sc : Sc) (em : Em) (gens : List Comprehension) (loc : Loc) (H : Hp)
/-- what it gives -/
inductive Rs where
  | v (x : V) (H : Hp)
  | b (b : Bool) (H : Hp)
  | f (fl : Fl) (loc : Loc) (H : Hp)
  | l (xs : List V) (H : Hp)
  | k (xs : List (Str × V)) (H : Hp)
  | o (i : Option Int) (H : Hp)
  | s (loc : Loc) (H : Hp)

noncomputable def kvOf : V → Str × V
  | .tup [.str k, v] => (k, v)
  | _ => (Str.empty, .none)
/-- the dict that pairs make -/
noncomputable def dictL (ys : List V) : List (Str × V) := ys.foldl (fun d p => setL d (kvOf p).1 (kvOf p).2) []

end Mine
end
section
open PySem PySem.W PyProof.Rows
namespace Mine

abbrev Cx.M (cx : Cx) : Model := model cx.prog cx.w

structure Ar (n : Nat) (A : Around) : Prop where
  handled : A.handled = none
  depth : A.depth + 4 * n < 1000
  units : A.units + 20 * n < 9900

/-- as much room as a call needs -/
structure ArF (n : Nat) (A : Around) : Prop where
  handled : A.handled = none
  depth : A.depth + 4 * n + 2 < 1000
  units : A.units + 20 * n + 10 < 9900
theorem Ar.f {n : Nat} {A : Around} (x : Ar (n + 1) A) : ArF n A := ⟨x.handled, by have := x.depth; lia, by have := x.units; lia⟩

theorem Ar.le {n m : Nat} {A : Around} (x : Ar n A) (h : m ≤ n) : Ar m A := ⟨x.handled, by have := x.depth; lia, by have := x.units; lia⟩

structure EnvOk (cx : Cx) (env : Env) (sc : Sc) : Prop where
  kind : env.scope.kind = .function
  names : ∀ x k, sc.lookup x = some k → env.kindOf x = some k ∨ (k = .free ∧ env.kindOf x = some .cell)
  globals : env.globals = mainGlobals
  builtins : env.builtins = builtinsNs
  code : ∃ q, cx.g.CodeRec env.code q
  lam : ∀ c P q, cx.lam sc = some (c, P, q) → env.code = .ref c ∧ env.qual ++ "<lambda>" = q

structure Vars (cx : Cx) (env : Env) (n : Nat) (ρ : Nat → Addr) (h : Heap) (loc : Loc) : Prop where
  ns : ∃ m, h.Ns env.locals m ∧ ∀ x v, loc.lookup x = some v → env.kindOf x = some .local → ∃ u, m x = some u ∧ Rep n ρ h u v
  cell : ∀ x v, loc.lookup x = some v → (env.kindOf x = some .cell ∨ env.kindOf x = some .free) → ∃ c u, env.cells.lookup x = some c ∧ h.IsCell c (some u) ∧ Rep n ρ h u v
  apL : ∀ i, i < n → ρ i ≠ env.locals
  apC : ∀ x c, env.cells.lookup x = some c → ∀ i, i < n → ρ i ≠ c
  cells : ∀ x c, env.cells.lookup x = some c → (∃ v, h.IsCell c v) ∧ c ≠ env.locals ∧ cx.g.get? c = none
  has : ∀ x, env.kindOf x = some .cell → ∃ c, env.cells.lookup x = some c
  dist : ∀ x y c, env.cells.lookup x = some c → env.cells.lookup y = some c → x = y
  low : cx.g.get? env.locals = none

theorem Stp.rep {cx ρ H s ρ' H' s'} (I : Inv cx ρ H s) (S : Stp cx NoW ρ H s ρ' H' s') {v x} (r : Rep H.n ρ s.heap v x) : Rep H'.n ρ' s'.heap v x :=
  r.mono (S.kp I fun _ _ _ _ x => x)
theorem Stp.repL {cx ρ H s ρ' H' s'} (I : Inv cx ρ H s) (S : Stp cx NoW ρ H s ρ' H' s') {v x} (r : RepL H.n ρ s.heap v x) : RepL H'.n ρ' s'.heap v x :=
  r.mono (S.kp I fun _ _ _ _ x => x)

theorem isCell_at {h h' : Heap} {c : Addr} {v : Option Value} (x : h.IsCell c v) (hk : ∀ o, h.get? c = some o → h'.get? c = some o) : h'.IsCell c v :=
  let ⟨o, ho, hd⟩ := x; ⟨o, hk o ho, hd⟩

theorem Vars.step {cx env ρ H s ρ' H' s' loc} (I : Inv cx ρ H s) (X : Vars cx env H.n ρ s.heap loc) (S : Stp cx NoW ρ H s ρ' H' s') : Vars cx env H'.n ρ' s'.heap loc := by
  obtain ⟨m, hn, hm⟩ := X.ns
  obtain ⟨oL, _, _, hoL, _⟩ := id hn
  have up : ∀ c o, (∀ i, i < H.n → ρ i ≠ c) → s.heap.get? c = some o → s'.heap.get? c = some o := fun c o hc e => S.ext c o e hc (fun x => x)
  refine ⟨⟨m, hn.at' fun o e => up _ o X.apL e, fun x v e k => ?_⟩, fun x v e k => ?_, S.old hoL X.apL, fun x c e => ?_, fun x c e => ?_, X.has, X.dist, X.low⟩
  · obtain ⟨u, a, b⟩ := hm x v e k
    exact ⟨u, a, S.rep I b⟩
  · obtain ⟨c, u, a, b, d⟩ := X.cell x v e k
    exact ⟨c, u, a, isCell_at b fun o q => up _ o (X.apC x c a) q, S.rep I d⟩
  · obtain ⟨⟨v, o, ho, _⟩, _, _⟩ := X.cells x c e
    exact S.old ho (X.apC x c e)
  · obtain ⟨⟨v, hv⟩, a, b⟩ := X.cells x c e
    exact ⟨⟨v, isCell_at hv fun o q => up _ o (X.apC x c e) q⟩, a, b⟩

structure RepK (n : Nat) (ρ : Nat → Addr) (h : Heap) (kvs : List (Str × Value)) (kws : List (Str × V)) : Prop where
  names : kvs.map (·.1) = kws.map (·.1)
  vals : RepL n ρ h (kvs.map (·.2)) (kws.map (·.2))

inductive RepF (n : Nat) (ρ : Nat → Addr) (h : Heap) : Flow → Fl → Prop
  | next : RepF n ρ h .next .next
  | brk : RepF n ρ h .brk .brk
  | cont : RepF n ρ h .cont .cont
  | ret {v x} : Rep n ρ h v x → RepF n ρ h (.ret v) (.ret x)

noncomputable def Wr (env : Env) : Addr → Prop := fun a => a = env.locals ∨ ∃ x, env.cells.lookup x = some a
theorem Vars.notW {cx env loc ρ H s ρ' H' s' W} (X : Vars cx env H.n ρ s.heap loc) (T : Stp cx W ρ H s ρ' H' s') : ∀ i, H.n ≤ i → i < H'.n → ¬ Wr env (ρ' i) := fun i h1 h2 w => by
  have hf := T.fresh i h1 h2
  obtain ⟨m, ⟨oL, _, _, hoL, _⟩, _⟩ := X.ns
  rcases w with w | ⟨x, w⟩
  · rw [w, hoL] at hf; cases hf
  · obtain ⟨⟨v, o, ho, _⟩, _, _⟩ := X.cells x _ w
    rw [ho] at hf; cases hf
/-- a callee and the values that go ahead of its arguments -/
inductive Cal (n : Nat) (ρ : Nat → Addr) (h : Heap) : Value → List Value → V → Prop
  | obj {f x} : Rep n ρ h f x → Cal n ρ h f [] x
  | mt {g : Addr} {w : Value} {y : V} : Rep n ρ h w y → Cal n ρ h (.ref g) [w] (.mt g y)
  | bm {p : Pm} {w : Value} {y : V} : Rep n ρ h w y → Cal n ρ h (.builtin p.id) [w] (.bm p y)

/-- a def of the text -/
structure FnOk (cx : Cx) (f : Addr) (fd : FuncData) : Prop where
  obj : ∃ o, cx.g.get? f = some o ∧ o.data = .func fd
  glo : fd.globals = mainGlobals
  bui : fd.builtins = builtinsNs
  clo : fd.closure = []
  kind : fd.scope.kind = .function
  gen : fd.scope.isGenerator = false
  cor : fd.scope.isCoroutine = false
  code : cx.g.CodeRec fd.code fd.qualname
  lam : ∀ c P q, cx.lam fd.scope.names = some (c, P, q) → fd.code = .ref c ∧ fd.qualname ++ ".<locals>." ++ "<lambda>" = q

noncomputable def SrcV (g : Heap) (vs : List Value) (kvs : List (Str × Value)) : Src → Value → Prop
  | .arg i, u => vs[i]? = some u
  | .kw i, u => (kvs.map (·.2))[i]? = some u
  | .dflt v, u => ∀ n ρ h, (∀ b o, g.get? b = some o → h.get? b = some o) → Rep n ρ h u v

inductive Srcs (g : Heap) (vs : List Value) (kvs : List (Str × Value)) : List (Str × Src) → List Value → Prop
  | nil : Srcs g vs kvs [] []
  | cons {p ps u us} : SrcV g vs kvs p.2 u → Srcs g vs kvs ps us → Srcs g vs kvs (p :: ps) (u :: us)
structure SigOk (cx : Cx) (fd : FuncData) (n : Nat) (ks : List Str) (ps : List (Str × Src)) : Prop where
  kinds : ∀ p ∈ ps, fd.scope.names.lookup p.1 = some .local ∨ fd.scope.names.lookup p.1 = some .cell
  nodup : (ps.map (·.1)).Nodup
  bind : ∀ {A : Around} {s : Shared} {vs : List Value} {kvs : List (Str × Value)} {Q : List (Str × Value) → Shared → Prop} {E : Value → Shared → Prop}, (∀ b o, cx.g.get? b = some o → s.heap.get? b = some o) → vs.length = n → kvs.map (·.1) = ks →
    (∀ us : List Value, Srcs cx.g vs kvs ps us → Q ((ps.map (·.1)).zip us) s) → wpAny cx.M A (bindArgs fd ⟨vs, kvs⟩) Q E s

structure ClsOk (cx : Cx) (C : Addr) (name : Str) (m : Option Addr) : Prop where
  hga : findIn cx.K (.ref C) "__getattribute__" = some (some (.builtin "object.__getattribute__"))
  hk : findIn cx.K (.ref C) "__getattr__" = some none
  hsa : findIn cx.K (.ref C) "__setattr__" = some (some (.builtin "object.__setattr__"))
  hf : findIn cx.K (.ref C) name = some (m.map .ref)
  cd : ∃ cd, clsIn cx.K C = some cd ∧ cd.hasDict = true
  over : plainOver cx.K C = true
  cop : copiedNames.contains name = false
  fn : ∀ f, m = some f → typeIn cx.K (.ref f) = some (.type "function") ∧ specialIn cx.K (.ref f) "__get__" = some (some (.builtin "function.__get__")) ∧ takesIn cx.K (.ref f) = some false

/-- what the text's own names and classes give -/
structure PeOk (pe : Pe) (cx : Cx) : Prop where
  glob : ∀ {x v}, pe.glob x = some v → ∃ u, (∀ n ρ h, Rep n ρ h u v) ∧ ∀ {A} {env : Env} {s : Shared} {Q : Value → Shared → Prop} {E}, env.globals = mainGlobals → env.builtins = builtinsNs →
    (∀ b o, cx.g.get? b = some o → s.heap.get? b = some o) → Q u s → wpAny cx.M A (loadGlobal env x) Q E s
  noLimit : cx.g.NoLimit
  sys : HasSys cx
  fn : ∀ {f fd}, pe.fn f = some fd → FnOk cx f fd
  kin : cx.K.In cx.g
  init : ∀ {C g}, pe.init C = some g → makesIn cx.K C = true ∧ findIn cx.K (.ref C) "__init__" = some (some (.ref g)) ∧ typeIn cx.K (.ref g) = some (.type "function")
  cls : ∀ {C name m}, pe.cls C name = some m → ClsOk cx C name m
  lam : ∀ sc, pe.lam sc = cx.lam sc
  lamOk : ∀ {sc c P q}, cx.lam sc = some (c, P, q) → CodeHd cx.g c P ∧ ∃ mg, cx.g.Ns mainGlobals mg ∧ cx.g.BuiltinsAt mg P ∧ mainGlobals ≠ P
  nsm : ∀ {l}, pe.nsm = some l → pe.glob "list" = some (.bf .list) ∧ ∃ a ps, (∀ {A} {env : Env} {s : Shared} {Q : Value → Shared → Prop} {E}, env.globals = mainGlobals → env.builtins = builtinsNs →
    (∀ b o, cx.g.get? b = some o → s.heap.get? b = some o) → Q (.ref a) s → wpAny cx.M A (loadGlobal env nsMapName) Q E s) ∧ (a == sysModules) = false ∧ ps.length ≤ 1000 ∧ cx.g.DictOf (PySem.strKind cx.prog cx.w) a ps ∧ ps.map (·.1) = l.map (·.1) ∧ StrsAre (ps.map (·.2)) (l.map (·.2))
  lst : ∀ {a is}, pe.lst a = some is → is.length ≤ 1000 ∧ ∃ vs : Array Value, cx.g.IsList a vs ∧ ∀ n ρ h, RepL n ρ h vs.toList (is.map .int)
  sig : ∀ {f fd n ks ps}, pe.fn f = some fd → pe.sig f n ks ps → SigOk cx fd n ks ps

/-- a place in the run -/
structure Cn (cx : Cx) (n : Nat) (sc : Sc) (loc : Loc) (H : Hp) (A : Around) (env : Env) (ρ : Nat → Addr) (s : Shared) : Prop where
  ar : Ar n A
  en : EnvOk cx env sc
  inv : Inv cx ρ H s
  vars : Vars cx env H.n ρ s.heap loc
theorem Cn.low {cx n sc loc H A env ρ s} (C : Cn cx (n + 1) sc loc H A env ρ s) : Cn cx n sc loc H A env ρ s := ⟨C.ar.le (Nat.le_succ n), C.en, C.inv, C.vars⟩
theorem Cn.step {cx n sc loc H A env ρ s ρ' H' s'} (C : Cn cx n sc loc H A env ρ s) (S : Stp cx NoW ρ H s ρ' H' s') : Cn cx n sc loc H' A env ρ' s' := ⟨C.ar, C.en, S.inv, C.vars.step C.inv S⟩
theorem Cn.to {cx n sc loc H A env ρ s loc' ρ' H' s'} (C : Cn cx n sc loc H A env ρ s) (I : Inv cx ρ' H' s') (X : Vars cx env H'.n ρ' s'.heap loc') : Cn cx n sc loc' H' A env ρ' s' := ⟨C.ar, C.en, I, X⟩

noncomputable def GE (cx : Cx) (n : Nat) (sc : Sc) (loc : Loc) (e : Expr) (H : Hp) (x : V) (H' : Hp) : Prop :=
  ∀ {A env ρ s} {Q : Value → Shared → Prop} {E}, Cn cx n sc loc H A env ρ s → (∀ v s' ρ', Stp cx NoW ρ H s ρ' H' s' → Rep H'.n ρ' s'.heap v x → Q v s') → wpAny cx.M A (eval e env) Q E s
noncomputable def GT (cx : Cx) (n : Nat) (sc : Sc) (loc : Loc) (e : Expr) (H : Hp) (b : Bool) (H' : Hp) : Prop :=
  ∀ {A env ρ s} {Q : Bool → Shared → Prop} {E}, Cn cx n sc loc H A env ρ s → (∀ s' ρ', Stp cx NoW ρ H s ρ' H' s' → Q b s') → wpAny cx.M A (isTrue e env (eval e env)) Q E s
/-- a comprehension whose value is stored while its frame still stands -/
noncomputable def GC (cx : Cx) (n : Nat) (sc : Sc) (loc : Loc) (e : Expr) (H : Hp) (x : V) (H' : Hp) : Prop :=
  ∀ {A env ρ s} {u : Value → Sem Unit} {Q : Unit → Shared → Prop} {E}, Cn cx n sc loc H A env ρ s →
    (∀ v s' ρ' Cl m, Stp cx NoW ρ H s ρ' H' s' → Rep H'.n ρ' s'.heap v x → s'.heap.Ns Cl m → (∀ i, i < H'.n → ρ' i ≠ Cl) → s.heap.get? Cl = none → cx.g.get? Cl = none → ¬ Wr env Cl →
      wpAny cx.M A (u v) (fun _ s'' => ∃ m, s''.heap.Ns Cl m ∧ ∀ h', Heap.SameBut Cl s''.heap h' → Q () { s'' with heap := h' }) E s') → wpAny cx.M A (evalThenUse e env u) Q E s
/-- a step of a statement -/
abbrev QX (cx : Cx) (env : Env) (ρ : Nat → Addr) (H : Hp) (s : Shared) (fl : Fl) (loc' : Loc) (H' : Hp) (Q : Flow → Shared → Prop) : Prop :=
  ∀ f s' ρ', Stp cx (Wr env) ρ H s ρ' H' s' → Vars cx env H'.n ρ' s'.heap loc' → RepF H'.n ρ' s'.heap f fl → Q f s'
noncomputable def GX (cx : Cx) (n : Nat) (sc : Sc) (st : Stmt) (loc : Loc) (H : Hp) (fl : Fl) (loc' : Loc) (H' : Hp) : Prop :=
  ∀ {A env ρ s} {Q : Flow → Shared → Prop} {E}, Cn cx n sc loc H A env ρ s → QX cx env ρ H s fl loc' H' Q → wpAny cx.M A (exec st env) Q E s
noncomputable def GXs (cx : Cx) (n : Nat) (sc : Sc) (body : List Stmt) (loc : Loc) (H : Hp) (fl : Fl) (loc' : Loc) (H' : Hp) : Prop :=
  ∀ {A env ρ s} {Q : Flow → Shared → Prop} {E}, Cn cx n sc loc H A env ρ s → QX cx env ρ H s fl loc' H' Q → wpAny cx.M A (execs body env) Q E s
noncomputable def GCall (cx : Cx) (n : Nat) (f : V) (args : List V) (kws : List (Str × V)) (H : Hp) (x : V) (H' : Hp) : Prop :=
  ∀ {A s ρ fv first vs kvs} {Q : Value → Shared → Prop} {E}, Ar n A → Inv cx ρ H s → Cal H.n ρ s.heap fv first f → RepL H.n ρ s.heap vs args → RepK H.n ρ s.heap kvs kws →
    (∀ v s' ρ', Stp cx NoW ρ H s ρ' H' s' → Rep H'.n ρ' s'.heap v x → Q v s') → wpAny cx.M A (call fv (first ++ vs) kvs) Q E s
noncomputable def GRun (cx : Cx) (n : Nat) (f : Addr) (args : List V) (kws : List (Str × V)) (H : Hp) (x : V) (H' : Hp) : Prop :=
  ∀ {A s ρ vs kvs} {R : Result → Shared → Prop}, ArF n A → Inv cx ρ H s → RepL H.n ρ s.heap vs args → RepK H.n ρ s.heap kvs kws →
    (∀ v s' ρ', Stp cx NoW ρ H s ρ' H' s' → Rep H'.n ρ' s'.heap v x → R (.ok (.ret v)) s') → codeAny cx.M A (.call (.ref f) ⟨vs, kvs⟩) R s
noncomputable def GL (cx : Cx) (n : Nat) (sc : Sc) (loc : Loc) (es : List Expr) (H : Hp) (xs : List V) (H' : Hp) : Prop :=
  (∀ pos env, (backTo pos (starEach es env)).all (fun p => !p.1) = true) ∧ (∀ env, es = [] ∧ xs = [] ∧ H' = H ∨ ∃ e es', es = e :: es' ∧ starEach (e :: es') env = (false, eval e env) :: starEach es' env) ∧
  ∀ {A env ρ s pos} {Q : List Value → Shared → Prop} {E}, Cn cx n sc loc H A env ρ s → (∀ vs s' ρ', Stp cx NoW ρ H s ρ' H' s' → RepL H'.n ρ' s'.heap vs xs → Q vs s') → wpAny cx.M A (spliced (backTo pos (starEach es env))) Q E s
noncomputable def GKw (cx : Cx) (n : Nat) (sc : Sc) (loc : Loc) (ks : List Keyword) (H : Hp) (xs : List (Str × V)) (H' : Hp) : Prop :=
  (∀ pos env, (backToKw pos (keywordEach ks env)).all (·.1.isSome) = true ∧ (backToKw pos (keywordEach ks env)).filterMap (·.1) = xs.map (·.1)) ∧
  ∀ {A env ρ s pos} {Q : List Value → Shared → Prop} {E}, Cn cx n sc loc H A env ρ s → (∀ vs s' ρ', Stp cx NoW ρ H s ρ' H' s' → RepL H'.n ρ' s'.heap vs (xs.map (·.2)) → Q vs s') → wpAny cx.M A (evalAll ((backToKw pos (keywordEach ks env)).map (·.2))) Q E s
noncomputable def GTs (cx : Cx) (n : Nat) (sc : Sc) (loc : Loc) (op : BoolOp) (es : List Expr) (H : Hp) (b : Bool) (H' : Hp) : Prop :=
  ∀ {A env ρ s} {Q : Bool → Shared → Prop} {E}, Cn cx n sc loc H A env ρ s → (∀ s' ρ', Stp cx NoW ρ H s ρ' H' s' → Q b s') → wpAny cx.M A (allTrue op es env) Q E s
noncomputable def GBo (cx : Cx) (n : Nat) (sc : Sc) (loc : Loc) (op : BoolOp) (es : List Expr) (H : Hp) (x : V) (H' : Hp) : Prop :=
  ∀ {A env ρ s pos} {Q : Value → Shared → Prop} {E}, Cn cx n sc loc H A env ρ s → (∀ v s' ρ', Stp cx NoW ρ H s ρ' H' s' → Rep H'.n ρ' s'.heap v x → Q v s') → wpAny cx.M A (boolOp pos op (evalEach es env)) Q E s
noncomputable def GIf (cx : Cx) (n : Nat) (sc : Sc) (loc : Loc) (ifs : List Expr) (H : Hp) (b : Bool) (H' : Hp) : Prop :=
  ∀ {A env ρ s} {Q : Bool → Shared → Prop} {E}, Cn cx n sc loc H A env ρ s → (∀ s' ρ', Stp cx NoW ρ H s ρ' H' s' → Q b s') →
    wpAny cx.M A (forIn ifs true fun c r => if r = true then do let ok ← isTrue c env (eval c env); pure (ForInStep.yield ok) else pure (ForInStep.yield r)) Q E s
noncomputable def GO (cx : Cx) (n : Nat) (sc : Sc) (loc : Loc) (a : Option Expr) (H : Hp) (l : Option Int) (H' : Hp) : Prop :=
  ∀ {A env ρ s} {Q : Value → Shared → Prop} {E}, Cn cx n sc loc H A env ρ s → (∀ v s' ρ', Stp cx NoW ρ H s ρ' H' s' → IsPart v l → Q v s') → wpAny cx.M A (evalPart a env) Q E s
noncomputable def GA (cx : Cx) (n : Nat) (sc : Sc) (t : Expr) (v : V) (loc : Loc) (H : Hp) (loc' : Loc) (H' : Hp) : Prop :=
  ∀ {A env ρ s u} {Q : Unit → Shared → Prop} {E}, Cn cx n sc loc H A env ρ s → Rep H.n ρ s.heap u v → (∀ s' ρ', Stp cx (Wr env) ρ H s ρ' H' s' → Vars cx env H'.n ρ' s'.heap loc' → Q () s') → wpAny cx.M A (assign t env u) Q E s
noncomputable def GAs (cx : Cx) (n : Nat) (sc : Sc) (ts : List Expr) (v : V) (loc : Loc) (H : Hp) (loc' : Loc) (H' : Hp) : Prop :=
  ∀ {A env ρ s u} {Q : Unit → Shared → Prop} {E}, Cn cx n sc loc H A env ρ s → Rep H.n ρ s.heap u v → (∀ s' ρ', Stp cx (Wr env) ρ H s ρ' H' s' → Vars cx env H'.n ρ' s'.heap loc' → Q () s') → wpAny cx.M A (assignAll u ((assignEach ts env).map (·.2))) Q E s

theorem Stp.toks {cx ρ H s} {k : Nat} (W) (I : Inv cx ρ H s) : Stp cx W ρ H s ρ H { s with toks := k } :=
  Stp.grown W I (fun _ _ e => e) rfl I.bare

section
variable {cx : Cx} {A : Around} {env : Env} {s : Shared} {ρ : Nat → Addr} {H : Hp} {loc : Loc} {sc : Sc} {E : Value → Shared → Prop}

theorem s_Constant {c : Const} {k : Nat} {pos : Pos} {v : V} {Q : Value → Shared → Prop} (h : cst c = some v) (I : Inv cx ρ H s)
    (hQ : ∀ u s', Stp cx NoW ρ H s ρ H s' → Rep H.n ρ s'.heap u v → Q u s') : wpAny cx.M A (eval (.Constant c k pos) env) Q E s := by
  rw [eval_Constant]
  cases c <;> simp only [cst, Option.some.injEq, reduceCtorEq] at h
  · subst h; exact wpAny_pure (hQ _ _ (Stp.refl _ I) .none)
  · subst h; exact wpAny_pure (hQ _ _ (Stp.refl _ I) (.bool _))
  · subst h; exact fun _ _ _ => hQ _ _ (Stp.toks _ I) (.int _ _)
  · subst h; exact fun _ _ _ => hQ _ _ (Stp.toks _ I) (.str _ _)

theorem debug_ne {x : Str} (h : ¬ x = ("__debug__" : Str)) : (x == ("__debug__" : Str)) = false := by simpa using h

theorem EnvOk.kind' (N : EnvOk cx env sc) {x : Str} {k : NameKind} (h : sc.lookup x = some k) (hk : k ≠ .free) : env.kindOf x = some k := (N.names x k h).elim id fun q => absurd q.1 hk
theorem s_load {pe : Pe} (P : PeOk pe cx) {x : Str} {v : V} {Q : Value → Shared → Prop} (h : look pe sc loc x = some v) (N : EnvOk cx env sc) (I : Inv cx ρ H s) (X : Vars cx env H.n ρ s.heap loc)
    (hQ : ∀ u, Rep H.n ρ s.heap u v → Q u s) : wpAny cx.M A (loadName env x) Q E s := by
  unfold look at h
  split at h
  · cases h
  · rename_i hd
    generalize hk : sc.lookup x = k at h
    cases k with
    | none => cases h
    | some k =>
      cases k with
      | «local» =>
        obtain ⟨m, hn, hm⟩ := X.ns
        have hk' := N.kind' hk (by decide)
        obtain ⟨u, hu, r⟩ := hm x v h hk'
        exact wpAny_loadName_local N.kind hk' hn hu (hQ u r)
      | cell =>
        have hk' := N.kind' hk (by decide)
        obtain ⟨c, u, hc, hv, r⟩ := X.cell x v h (.inl hk')
        exact wpAny_loadName_cell N.kind hk' hc hv (hQ u r)
      | free =>
        have hk' := N.names x _ hk
        obtain ⟨c, u, hc, hv, r⟩ := X.cell x v h (hk'.elim .inr fun q => .inl q.2)
        rcases hk' with hk | ⟨_, hk⟩
        · exact wpAny_loadName_free N.kind hk hc hv (hQ u r) (beq_false_of_ne fun q => hd (.inr q))
        · exact wpAny_loadName_cell N.kind hk hc hv (hQ u r)
      | globalImplicit =>
        obtain ⟨u, r, hl⟩ := P.glob h
        rw [loadName_read N.kind (N.kind' hk (by decide))]
        exact hl N.globals N.builtins I.keep (hQ u (r _ _ _))
      | _ => first | exact noS h | exact noB h | cases h

theorem look_dbg {pe : Pe} {x : Str} {v : V} (h : look pe sc loc x = some v) : (x == ("__debug__" : Str)) = false := by
  unfold look at h
  split at h
  · cases h
  · rename_i hd; exact debug_ne fun q => hd (.inl q)

theorem s_Name {pe : Pe} (P : PeOk pe cx) {x : Str} {pos : Pos} {v : V} {Q : Value → Shared → Prop} (h : look pe sc loc x = some v) (N : EnvOk cx env sc) (I : Inv cx ρ H s) (X : Vars cx env H.n ρ s.heap loc)
    (hQ : ∀ u, Rep H.n ρ s.heap u v → Q u s) : wpAny cx.M A (eval (.Name x pos) env) Q E s :=
  wpAny_Name (s_load P h N I X hQ) (look_dbg h)
end
end Mine
end
section
open PySem PySem.W PyProof.Rows
namespace Mine

theorem RepL.length {n ρ h vs xs} (r : RepL n ρ h vs xs) : vs.length = xs.length := by
  induction xs generalizing vs with
  | nil => cases r; rfl
  | cons x xs ih => cases r with | cons a b => simp [ih b]
theorem RepL.append {n ρ h} : ∀ {vs xs ws ys}, RepL n ρ h vs xs → RepL n ρ h ws ys → RepL n ρ h (vs ++ ws) (xs ++ ys)
  | _, _, _, _, .nil, r => r
  | _, _, _, _, .cons a b, r => .cons a (b.append r)
theorem RepL.snoc {n ρ h vs xs v x} (r : RepL n ρ h vs xs) (q : Rep n ρ h v x) : RepL n ρ h (vs ++ [v]) (xs ++ [x]) := r.append (.cons q .nil)
theorem RepL.get {n ρ h} : ∀ {vs xs}, RepL n ρ h vs xs → ∀ (i : Nat) {x}, xs[i]? = some x → ∃ v, vs[i]? = some v ∧ Rep n ρ h v x
  | _, _, .nil, _, _, e => by simp at e
  | _, _, .cons a b, 0, _, e => by simp at e; subst e; exact ⟨_, rfl, a⟩
  | _, _, .cons a b, i + 1, _, e => b.get i (by simpa using e)
theorem RepL.get' {n ρ h} : ∀ {vs xs}, RepL n ρ h vs xs → ∀ (i : Nat) {v}, vs[i]? = some v → ∃ x, xs[i]? = some x ∧ Rep n ρ h v x
  | _, _, .nil, _, _, e => by simp at e
  | _, _, .cons a b, 0, _, e => by simp at e; subst e; exact ⟨_, rfl, a⟩
  | _, _, .cons a b, i + 1, _, e => b.get' i (by simpa using e)
theorem RepL.pick {n ρ h vs xs} (r : RepL n ρ h vs xs) : ∀ (is : List Nat), RepL n ρ h (is.filterMap (vs[·]?)) (is.filterMap (xs[·]?))
  | [] => .nil
  | i :: is => by
    simp only [List.filterMap_cons]
    cases e : xs[i]? with
    | none =>
      have : vs[i]? = none := by
        rw [List.getElem?_eq_none_iff] at e ⊢; rw [r.length]; exact e
      rw [this]; exact r.pick is
    | some x =>
      obtain ⟨v, hv, q⟩ := r.get i e
      rw [hv]; exact .cons q (r.pick is)

theorem Rep.inv_none {n ρ h v} (r : Rep n ρ h v .none) : v = .none := by cases r; rfl
theorem Rep.inv_bool {n ρ h v b} (r : Rep n ρ h v (.bool b)) : v = .bool b := by cases r; rfl
theorem Rep.inv_int {n ρ h v i} (r : Rep n ρ h v (.int i)) : ∃ t, v = .int i t := by cases r; exact ⟨_, rfl⟩
theorem Rep.inv_str {n ρ h v x} (r : Rep n ρ h v (.str x)) : ∃ t, v = .str x t := by cases r; exact ⟨_, rfl⟩
theorem Rep.inv_tup {n ρ h v xs} (r : Rep n ρ h v (.tup xs)) : ∃ a vs k, v = .ref a ∧ h.get? a = some { cls := .type "tuple", data := .seq vs k } ∧ RepL n ρ h vs.toList xs := by
  cases r with | tup e q => exact ⟨_, _, _, rfl, e, q⟩
theorem Rep.inv_ref {n ρ h v i} (r : Rep n ρ h v (.ref i)) : i < n ∧ v = .ref (ρ i) := by
  cases r with | ref _ hi => exact ⟨hi, rfl⟩
theorem Rep.inv_view {n ρ h v i} (r : Rep n ρ h v (.view i)) : i < n ∧ ∃ a, v = .ref a ∧ h.get? a = some { cls := .type "dict_items", data := .fields #[.ref (ρ i)] } := by
  cases r with | view hi e => exact ⟨hi, _, rfl, e⟩
theorem Rep.inv_bm {n ρ h v p x} (r : Rep n ρ h v (.bm p x)) : p.obj = true ∧ ∃ a w, v = .ref a ∧ h.get? a = some { cls := .type "builtin_function_or_method", data := .fields #[.builtin p.id, w] } ∧ Rep n ρ h w x := by
  cases r with | bm hp e q => exact ⟨hp, _, _, rfl, e, q⟩
theorem Rep.inv_mt {n ρ h v f x} (r : Rep n ρ h v (.mt f x)) : ∃ a w, v = .ref a ∧ h.get? a = some { cls := .type "method", data := .fields #[.ref f, w] } ∧ Rep n ρ h w x := by
  cases r with | mt e q => exact ⟨_, _, rfl, e, q⟩
theorem Rep.inv_bf {n ρ h v b} (r : Rep n ρ h v (.bf b)) : v = b.val := by cases r; rfl
theorem Rep.inv_fn {n ρ h v a} (r : Rep n ρ h v (.fn a)) : v = .ref a := by cases r; rfl

theorem lim_eq : lim = sizeLine := by rw [sizeLine_eq]; rfl

theorem Inv.list {cx ρ H s} (I : Inv cx ρ H s) {i : Nat} {xs : List V} (hi : i < H.n) (e : H.f i = .list xs) :
    ∃ vs k, s.heap.get? (ρ i) = some { cls := .type "list", data := .seq vs k } ∧ RepL H.n ρ s.heap vs.toList xs := by
  have := I.objs i hi; rw [e] at this; exact this
theorem Inv.dict {cx ρ H s} (I : Inv cx ρ H s) {i : Nat} {kvs : List (Str × V)} (hi : i < H.n) (e : H.f i = .dict kvs) :
    ∃ ps : List (Str × Value), s.heap.DictOf (strKind cx.prog cx.w) (ρ i) ps ∧ ps.map (·.1) = kvs.map (·.1) ∧ RepL H.n ρ s.heap (ps.map (·.2)) (kvs.map (·.2)) := by
  have := I.objs i hi; rw [e] at this; exact this
theorem isList_of {h : Heap} {a : Addr} {vs : Array Value} {k : Nat} (e : h.get? a = some { cls := .type "list", data := .seq vs k }) : h.IsList a vs := ⟨_, e, rfl, k, rfl⟩
theorem size_of {n ρ h} {vs : Array Value} {xs : List V} (r : RepL n ρ h vs.toList xs) : vs.size = xs.length := by rw [← Array.length_toList]; exact r.length

theorem Inv.notSys {cx ρ H s} (I : Inv cx ρ H s) (_ : HasSys cx) {i : Nat} (hi : i < H.n) : (ρ i == sysModules) = false := by
  simp only [beq_eq_false_iff_ne]
  exact I.nsys i hi

theorem isEmpty_eq {α β : Type} {l : List α} {m : List β} (h : l.length = m.length) : l.isEmpty = m.isEmpty := by
  cases l <;> cases m <;> simp_all
theorem isEmpty_arr {α β : Type} {l : Array α} {m : List β} (h : l.size = m.length) : l.isEmpty = m.isEmpty := by
  cases m with
  | nil => simp at h; simp [h]
  | cons x m =>
    simp only [List.isEmpty_cons]
    have : l.size ≠ 0 := by rw [h]; simp
    simpa [Array.isEmpty] using this

theorem map_len {α β γ : Type} {l : List α} {m : List β} {f : α → γ} {g : β → γ} (h : l.map f = m.map g) : l.length = m.length := by
  have := congrArg List.length h
  rwa [List.length_map, List.length_map] at this

section
variable {cx : Cx} {A : Around} {s : Shared} {ρ : Nat → Addr} {H : Hp} {E : Value → Shared → Prop}

theorem ite_some {c : Prop} [Decidable c] {α : Type} {a b : α} (h : (if c then some a else none) = some b) : c ∧ a = b := by
  by_cases hc : c
  · rw [if_pos hc] at h; exact ⟨hc, Option.some.inj h⟩
  · rw [if_neg hc] at h; cases h
theorem le_line {k : Nat} (h : k ≤ lim) : (k : Int) < 2 ^ 63 := by unfold lim at h; lia
theorem natAbs_small {y : Int} (h : 0 < y ∧ y < 2 ^ 30) : y.natAbs < 2 ^ 30 := by lia
theorem len_ne (x : Nat) : ((x : Int) != 0) = (x != 0) := by cases x <;> rfl

theorem s_truth {v : V} {u : Value} {b : Bool} {Q : Bool → Shared → Prop} (hg : HasSys cx) (h : truth H v = some b) (I : Inv cx ρ H s) (r : Rep H.n ρ s.heap u v)
    (hQ : ∀ s', Stp cx NoW ρ H s ρ H s' → Q b s') : wpAny cx.M A (truthy u) Q E s := by
  cases r with
  | none => cases h; exact fun _ _ _ => hQ _ (Stp.refl _ I)
  | bool c => cases h; exact wpAny_truthy_bool (hQ _ (Stp.refl _ I))
  | int i t => cases h; exact P.truthy_int (hQ _ (Stp.refl _ I))
  | str x t =>
    obtain ⟨hl, rfl⟩ := ite_some h
    exact P.truthy_str (Int.not_le.mpr (le_line hl)) (len_ne _ ▸ hQ _ (Stp.toks _ I))
  | tup e q =>
    obtain ⟨hl, rfl⟩ := ite_some h
    exact truthy_tuple ⟨_, e, rfl, _, rfl⟩ (le_line (size_of q ▸ hl)) (isEmpty_arr (size_of q) ▸ hQ _ (Stp.toks _ I))
  | ref i hi =>
    have h : truthO (H.f i) = some b := h
    generalize hf : H.f i = o at h
    cases o with
    | list xs =>
      obtain ⟨hl, rfl⟩ := ite_some h
      obtain ⟨vs, k, e, q⟩ := I.list hi hf
      exact wpAny_truthy_list (isList_of e) (le_line (size_of q ▸ hl)) (isEmpty_arr (size_of q) ▸ hQ _ (Stp.toks _ I))
    | dict kvs =>
      obtain ⟨hl, rfl⟩ := ite_some h
      obtain ⟨ps, e, hn, q⟩ := I.dict hi hf
      have hz := map_len hn
      exact wpAny_truthy_dict (I.notSys hg hi) e (le_line (hz ▸ hl)) (isEmpty_eq hz ▸ hQ _ (Stp.toks _ I))
    | _ => first | exact noS h | exact noB h | cases h
  | _ => first | exact noS h | exact noB h | cases h

/-- a new list -/
theorem Stp.newList {vs : Array Value} {xs : List V} (I : Inv cx ρ H s) (r : RepL H.n ρ s.heap vs.toList xs) :
    Stp cx NoW ρ H s (fun j => if j = H.n then s.heap.objs.size else ρ j) (H.alloc (.list xs)) { s with heap := s.heap.push { cls := .type "list", data := .seq vs } } := by
  refine Stp.new _ I (get?_size _) I.neS (fun _ _ e => Heap.get?_push_of_some _ e) ⟨vs, 0, Heap.get?_push_size _ rfl, r.mono ⟨Nat.le_succ _, fun i hi => if_neg (Nat.ne_of_lt hi), fun a o e _ => Heap.get?_push_of_some _ e⟩⟩ rfl I.bare
theorem rep_new {n : Nat} {ρ : Nat → Addr} {h : Heap} {a : Addr} : Rep (n + 1) (fun j => if j = n then a else ρ j) h (.ref a) (.ref n) := by
  have := Rep.ref (n := n + 1) (ρ := fun j => if j = n then a else ρ j) (h := h) n (Nat.lt_succ_self n)
  rwa [if_pos rfl] at this

theorem s_newList {vs : List Value} {xs : List V} {Q : Value → Shared → Prop} (I : Inv cx ρ H s) (r : RepL H.n ρ s.heap vs xs) (hl : xs.length ≤ lim)
    (hQ : ∀ v s' ρ', Stp cx NoW ρ H s ρ' (H.alloc (.list xs)) s' → Rep (H.n + 1) ρ' s'.heap v (.ref H.n) → Q v s') : wpAny cx.M A (newList vs) Q E s := by
  refine wpAny_newObj_type (hQ _ _ _ (Stp.newList I (by simpa using r)) rep_new) ?_
  show vs.toArray.size ≤ sizeLine
  rw [List.size_toArray, r.length, ← lim_eq]; exact hl

theorem s_newTuple {vs : List Value} {xs : List V} {Q : Value → Shared → Prop} (I : Inv cx ρ H s) (r : RepL H.n ρ s.heap vs xs) (hl : xs.length ≤ lim)
    (hQ : ∀ v s', Stp cx NoW ρ H s ρ H s' → Rep H.n ρ s'.heap v (.tup xs) → Q v s') : wpAny cx.M A (newTuple vs) Q E s := by
  refine wpAny_newObj_type (hQ _ _ (Stp.grown _ I (fun _ _ e => Heap.get?_push_of_some _ e) rfl I.bare) (.tup (Heap.get?_push_size _ rfl) ?_)) ?_
  · refine RepL.mono ⟨Nat.le_refl _, fun _ _ => rfl, fun a o e _ => Heap.get?_push_of_some _ e⟩ (by simpa using r)
  · show vs.toArray.size ≤ sizeLine
    rw [List.size_toArray, r.length, ← lim_eq]; exact hl

theorem fold_append_flatten (l : List (Array Value)) (acc : Array Value) : (l.foldl (fun a b => a ++ b) acc).toList = acc.toList ++ (l.map Array.toList).flatten := by
  induction l generalizing acc with
  | nil => simp
  | cons x l ih => simp [ih]
theorem RepL.rep {n ρ h vs xs} (r : RepL n ρ h vs xs) : ∀ k : Nat, RepL n ρ h (List.replicate k vs).flatten (List.replicate k xs).flatten
  | 0 => .nil
  | k + 1 => by simp only [List.replicate_succ, List.flatten_cons]; exact r.append (r.rep k)

theorem s_mul {l : Addr} {items : Array Value} {k : Nat} {x : Int} {u : Tok} {Q : Value → Shared → Prop}
    (hl : s.heap.get? l = some { cls := .type "list", dict := none, data := .seq items k, slots := #[] })
    (hlo : -(2 ^ 63 : Int) ≤ x) (hhi : x < 2 ^ 63) (hsz : items.size * x.toNat ≤ 2 ^ 24)
    (h : Q (.ref s.heap.objs.size) { s with heap := s.heap.push { cls := .type "list", data := .seq (List.foldl (fun x1 x2 => x1 ++ x2) #[] (List.replicate (if items.isEmpty = true then 0 else x.toNat) items)) } }) :
    wpAny cx.M A (binaryOp .Mult (.ref l) (.int x u)) Q E s :=
  wpAny_binaryOp_repeat_ref (T := "list") (U := "int") (by decide) ⟨_, hl, rfl⟩ (fun s' => typeIs_int s' x u) noFill_list_mul F.fills_int_mul F.slot_int_rmul repeat_list F.slot_int_index.lookup
    (call_meets F.slot_int_rmul (typeIs_int s x u) F.entry_int_rmul (F.args_int_rmul_2 _ _) (int___rmul___int_list x u l items k)
      ⟨hl, rfl, ⟨_, hl, rfl⟩, call_meets F.slot_list_mul ⟨_, hl, rfl⟩ F.entry_list_mul (F.args_list_mul_2 _ _)
        (AutoListH.list___mul___list_int_3 l items k x u (by simp [Builtin.List.listFitsIndex]; lia) (by lia) (by simp [Builtin.List.listTooLong, sizeLine]; lia))
        ⟨hl, h⟩⟩)

theorem repeat_of {n ρ h} {vs : Array Value} {xs : List V} (q : RepL n ρ h vs.toList xs) (k : Nat) :
    RepL n ρ h (List.foldl (fun x1 x2 => x1 ++ x2) #[] (List.replicate (if vs.isEmpty = true then 0 else k) vs)).toList (List.replicate k xs).flatten := by
  rw [fold_append_flatten, List.map_replicate, Array.toList_empty, List.nil_append]
  rw [isEmpty_arr (size_of q)]
  cases xs with
  | nil => rw [if_pos List.isEmpty_nil, List.replicate_zero, List.flatten_nil, List.flatten_replicate_nil]; exact .nil
  | cons x xs => exact q.rep k

theorem s_binop {op : Operator} {a b x : V} {u v : Value} {H' : Hp} {Q : Value → Shared → Prop} (h : Bin H op a b x H') (I : Inv cx ρ H s) (ra : Rep H.n ρ s.heap u a) (rb : Rep H.n ρ s.heap v b)
    (hQ : ∀ v s' ρ', Stp cx NoW ρ H s ρ' H' s' → Rep H'.n ρ' s'.heap v x → Q v s') : wpAny cx.M A (binaryOp op u v) Q E s := by
  cases h with
  | addS hl =>
    obtain ⟨t, rfl⟩ := ra.inv_str; obtain ⟨t', rfl⟩ := rb.inv_str
    exact SB.add (fun t' k => hQ _ _ _ (Stp.toks _ I) (.str _ _)) (lim_eq ▸ hl)
  | addI =>
    obtain ⟨t, rfl⟩ := ra.inv_int; obtain ⟨t', rfl⟩ := rb.inv_int
    exact wpAny_add_int (hQ _ _ _ (Stp.toks _ I) (.int _ _))
  | subI =>
    obtain ⟨t, rfl⟩ := ra.inv_int; obtain ⟨t', rfl⟩ := rb.inv_int
    exact P.sub_int (hQ _ _ _ (Stp.toks _ I) (.int _ _))
  | divI hl =>
    obtain ⟨t, rfl⟩ := ra.inv_int; obtain ⟨t', rfl⟩ := rb.inv_int
    exact floordiv_int (Int.ne_of_gt hl.1) (Int.fdiv_eq_ediv_of_nonneg _ (Int.le_of_lt hl.1) ▸ hQ _ _ _ (Stp.toks _ I) (.int _ _)) (.inl (PyProof.noPylong_small (natAbs_small hl)))
  | modI hl =>
    obtain ⟨t, rfl⟩ := ra.inv_int; obtain ⟨t', rfl⟩ := rb.inv_int
    exact mod_int' (Int.ne_of_gt hl.1) (Int.fmod_eq_emod_of_nonneg _ (Int.le_of_lt hl.1) ▸ hQ _ _ _ (Stp.toks _ I) (.int _ _))
  | addL hi hj hl e =>
    obtain ⟨ia, rfl⟩ := ra.inv_ref; obtain ⟨ib, rfl⟩ := rb.inv_ref
    obtain ⟨vs, k, e1, q⟩ := I.list ia hi
    obtain ⟨ws, k', e2, q'⟩ := I.list ib hj
    subst e
    exact P.add_list e1 e2 (hQ _ _ _ (Stp.newList I (by rw [Array.toList_append]; exact q.append q')) rep_new) (by rw [size_of q, size_of q', ← lim_eq]; exact hl)
  | mulL hi hl e =>
    obtain ⟨ia, rfl⟩ := ra.inv_ref; obtain ⟨t', rfl⟩ := rb.inv_int
    obtain ⟨vs, k, e1, q⟩ := I.list ia hi
    subst e
    exact s_mul e1 (Int.le_trans (by decide) hl.1) (Int.lt_trans hl.2.2 (by decide)) (by rw [size_of q]; exact hl.2.1) (hQ _ _ _ (Stp.newList I (repeat_of q _)) rep_new)
end
end Mine
end
section
open PySem PySem.W PyProof.Rows PySem.SeqAt
namespace Mine
section
variable {cx : Cx} {A : Around} {s : Shared} {ρ : Nat → Addr} {H : Hp} {E : Value → Shared → Prop}

theorem isTuple_of {h : Heap} {a : Addr} {vs : Array Value} {k : Nat} (e : h.get? a = some { cls := .type "tuple", data := .seq vs k }) : h.IsTuple a vs := ⟨_, e, rfl, k, rfl⟩
theorem map_some {α β : Type} {f : α → β} {o : Option α} {b : β} (h : o.map f = some b) : ∃ a, o = some a ∧ f a = b := Option.map_eq_some_iff.mp h
theorem strsOf_rep {n ρ h} : ∀ {xs : List V} {l : List Str} {vs : List Value}, strsOf xs = some l → RepL n ρ h vs xs → ∃ ts : List (Str × Tok), ts.map (·.1) = l ∧ vs = ts.map fun p => Value.str p.1 p.2
  | [], l, vs, e, r => by cases e; cases r; exact ⟨[], rfl, rfl⟩
  | x :: xs, l, vs, e, r => by
    cases r with | cons a b =>
    cases x with
    | str x =>
      obtain ⟨l', e', rfl⟩ := map_some e
      obtain ⟨ts, rfl, rfl⟩ := strsOf_rep e' b
      obtain ⟨t, rfl⟩ := a.inv_str
      exact ⟨(x, t) :: ts, rfl, rfl⟩
    | _ => cases e
theorem boolsOf_rep {n ρ h} : ∀ {xs : List V} {l : List Bool} {vs : List Value}, boolsOf xs = some l → RepL n ρ h vs xs → vs = l.map Value.bool
  | [], l, vs, e, r => by cases e; cases r; rfl
  | x :: xs, l, vs, e, r => by
    cases r with | cons a b =>
    cases x with
    | bool x =>
      obtain ⟨l', e', rfl⟩ := map_some e
      rw [a.inv_bool, boolsOf_rep e' b]; rfl
    | _ => cases e

theorem valueAt_isSome {ps : List (Str × Value)} {x : Str} : (valueAt ps x).isSome = (ps.map (·.1)).contains x := by
  unfold valueAt
  induction ps with
  | nil => rfl
  | cons p ps ih =>
    rw [List.find?_cons, List.map_cons, List.contains_cons]
    by_cases h : p.1 = x
    · simp [h]
    · have h' : (x == p.1) = false := by simpa using fun e => h e.symm
      simp only [h, decide_false, h', Bool.false_or]
      exact ih

theorem is_str (x : Str) (t : Tok) : (strKind cx.prog cx.w).is x (.str x t) = true := by simp [PySem.strKind, Value.isStrOf]

/-- in a list, by what == says of its items -/
theorem in_list (neg : Bool) {i : Nat} {xs : List V} {v : Value} {l : Bool} {Q : Value → Shared → Prop} (e : Value → Bool) (hi : i < H.n) (hf : H.f i = .list xs) (I : Inv cx ρ H s)
    (h : ∀ vs : List Value, RepL H.n ρ s.heap vs xs → (∀ y ∈ vs, EqAt A.in1 s y v (e y)) ∧ vs.any e = l) (hQ : Q (.bool (if neg then !l else l)) s) : wpAny cx.M A (compareOp (if neg then .NotIn else .In) v (.ref (ρ i))) Q E s := by
  obtain ⟨vs, k, ho, q⟩ := I.list hi hf
  obtain ⟨h1, h2⟩ := h _ q
  have hm : ∀ y, y ∈ vs → EqAt A.in1 s y v (e y) := fun y hy => h1 y (Array.mem_toList_iff.mpr hy)
  have hk : vs.any e = l := by rw [← Array.any_toList]; exact h2
  cases neg
  · exact in_listAt _ (isList_of ho) hm (hk ▸ hQ)
  · exact notIn_listAt _ (isList_of ho) hm (hk ▸ hQ)
noncomputable def strEq (x : Str) : Value → Bool
  | .str z _ => z == x
  | _ => false
noncomputable def boolEq (x : Bool) : Value → Bool
  | .bool z => z == x
  | _ => false
theorem any_strs (x : Str) (ts : List (Str × Tok)) : (ts.map fun p => Value.str p.1 p.2).any (strEq x) = (ts.map (·.1)).contains x := by
  rw [List.any_map, List.contains_eq_any_beq, List.any_map]
  congr 1; funext p; exact Bool.beq_comm
theorem any_bools (x : Bool) (l : List Bool) : (l.map Value.bool).any (boolEq x) = l.contains x := by
  rw [List.any_map, List.contains_eq_any_beq]
  congr 1; funext p; cases p <;> cases x <;> rfl

theorem s_in {a b : V} {u v : Value} {r : Bool} (neg : Bool) {Q : Value → Shared → Prop} (hg : HasSys cx) (h : InV H a b r) (I : Inv cx ρ H s) (ra : Rep H.n ρ s.heap u a) (rb : Rep H.n ρ s.heap v b)
    (hQ : ∀ s', Stp cx NoW ρ H s ρ H s' → Q (.bool (if neg then !r else r)) s') : wpAny cx.M A (compareOp (if neg then .NotIn else .In) u v) Q E s := by
  cases h with
  | str =>
    obtain ⟨t, rfl⟩ := ra.inv_str; obtain ⟨t', rfl⟩ := rb.inv_str
    cases neg
    · exact SB.contains (hQ _ (Stp.refl _ I))
    · exact SB.notContains (hQ _ (Stp.refl _ I))
  | set hf =>
    obtain ⟨t, rfl⟩ := ra.inv_str; obtain ⟨hi, rfl⟩ := rb.inv_ref
    have hS := I.objs _ hi; rw [hf] at hS
    cases neg
    · exact wpAny_inSet_of (is_str _ t) rfl hS.1.set (hQ _ (Stp.toks _ I))
    · exact wpAny_notInSet_of (is_str _ t) rfl hS.1.set (hQ _ (Stp.toks _ I))
  | dict hf =>
    obtain ⟨t, rfl⟩ := ra.inv_str; obtain ⟨hi, rfl⟩ := rb.inv_ref
    obtain ⟨ps, e, hn, q⟩ := I.dict hi hf
    rw [← hn, ← valueAt_isSome] at hQ
    cases neg
    · exact wpAny_in_of (is_str _ t) (I.notSys hg hi) e.mapOf (hQ _ (Stp.toks _ I))
    · exact wpAny_notIn_of (is_str _ t) (I.notSys hg hi) e.mapOf (hQ _ (Stp.toks _ I))
  | @lstr x i xs l hf hl =>
    obtain ⟨t, rfl⟩ := ra.inv_str; obtain ⟨hi, rfl⟩ := rb.inv_ref
    refine in_list neg (strEq x) hi hf I (fun vs q => ?_) (hQ _ (Stp.refl _ I))
    obtain ⟨ts, rfl, rfl⟩ := strsOf_rep hl q
    refine ⟨fun y hy => ?_, any_strs _ _⟩
    obtain ⟨p, _, rfl⟩ := List.mem_map.mp hy
    exact .str_str _ _ _ _
  | @lbool x i xs l hf hl =>
    cases ra.inv_bool; obtain ⟨hi, rfl⟩ := rb.inv_ref
    refine in_list neg (boolEq x) hi hf I (fun vs q => ?_) (hQ _ (Stp.refl _ I))
    cases boolsOf_rep hl q
    refine ⟨fun y hy => ?_, any_bools _ _⟩
    obtain ⟨p, _, rfl⟩ := List.mem_map.mp hy
    exact .bool_bool _ _

theorem isEmpty_len {α : Type} (l : List α) : l.isEmpty = (l.length == 0) := by cases l <;> rfl
theorem Rep.noneOr {n ρ h v x} (r : Rep n ρ h v x) : (isNone x = true ∧ v = .none) ∨ (isNone x = false ∧ v ≠ .none) := by
  cases r with
  | none => exact .inl ⟨rfl, rfl⟩
  | bf b => cases b <;> exact .inr ⟨rfl, nofun⟩
  | _ => exact .inr ⟨rfl, nofun⟩
theorem s_eq {a b : V} {u v : Value} {r : Bool} (neg : Bool) {Q : Value → Shared → Prop} (hg : HasSys cx) (hu : A.units + 20 < cLine) (h : EqV H a b r) (I : Inv cx ρ H s) (ra : Rep H.n ρ s.heap u a) (rb : Rep H.n ρ s.heap v b)
    (hQ : Q (.bool (if neg then !r else r)) s) : wpAny cx.M A (compareOp (if neg then .NotEq else .Eq) u v) Q E s := by
  cases h with
  | str =>
    obtain ⟨t, rfl⟩ := ra.inv_str; obtain ⟨t', rfl⟩ := rb.inv_str
    cases neg
    · exact (RcAt.str_str _ _ _ _) _ _ _ _ hQ
    · exact (RcNeAt.str_str _ _ _ _) _ _ _ _ hQ
  | int =>
    obtain ⟨t, rfl⟩ := ra.inv_int; obtain ⟨t', rfl⟩ := rb.inv_int
    cases neg
    · exact (RcAt.int_int _ _ _ _) _ _ _ _ hQ
    · exact (RcNeAt.int_int _ _ _ _) _ _ _ _ hQ
  | bool =>
    cases ra.inv_bool; cases rb.inv_bool
    cases neg
    · exact (RcAt.bool_bool _ _) _ _ _ _ hQ
    · exact (RcNeAt.bool_bool _ _) _ _ _ _ hQ
  | dict0 hi hj =>
    obtain ⟨ia, rfl⟩ := ra.inv_ref; obtain ⟨ib, rfl⟩ := rb.inv_ref
    obtain ⟨ps, e, hn, q⟩ := I.dict ia hi
    obtain ⟨ps', e', hn', q'⟩ := I.dict ib hj
    cases List.map_eq_nil_iff.mp hn'
    rw [← isEmpty_eq (map_len hn), isEmpty_len ps] at hQ
    have hu' : A.units < cLine := Nat.lt_of_le_of_lt (Nat.le_add_right _ _) hu
    cases neg
    · exact keq_eq (r := true) (I.notSys hg ia) (I.notSys hg ib) e e' hu' (fun hl => by cases List.length_eq_zero_iff.mp hl; exact .nil) (by rw [Bool.and_true]; exact hQ)
    · exact keq_ne (r := true) (I.notSys hg ia) (I.notSys hg ib) e e' hu' (fun hl => by cases List.length_eq_zero_iff.mp hl; exact .nil) (by rw [Bool.and_true]; exact hQ)

theorem s_cmp {op : CmpOp} {a b : V} {u v : Value} {r : Bool} {Q : Value → Shared → Prop} (hg : HasSys cx) (hu : A.units + 20 < cLine) (h : Cmp H op a b r) (I : Inv cx ρ H s) (ra : Rep H.n ρ s.heap u a) (rb : Rep H.n ρ s.heap v b)
    (hQ : ∀ s', Stp cx NoW ρ H s ρ H s' → Q (.bool r) s') : wpAny cx.M A (compareOp op u v) Q E s := by
  have q := hQ _ (Stp.refl _ I)
  cases h with
  | eq h => exact s_eq false hg hu h I ra rb q
  | ne h => exact s_eq true hg hu h I ra rb q
  | lt => obtain ⟨t, rfl⟩ := ra.inv_int; obtain ⟨t', rfl⟩ := rb.inv_int; exact lt_int q
  | le => obtain ⟨t, rfl⟩ := ra.inv_int; obtain ⟨t', rfl⟩ := rb.inv_int; exact P.le_int q
  | gt => obtain ⟨t, rfl⟩ := ra.inv_int; obtain ⟨t', rfl⟩ := rb.inv_int; exact P.gt_int q
  | ge => obtain ⟨t, rfl⟩ := ra.inv_int; obtain ⟨t', rfl⟩ := rb.inv_int; exact P.ge_int q
  | is =>
    cases rb.inv_none
    rcases ra.noneOr with ⟨e, rfl⟩ | ⟨e, hn⟩ <;> rw [e] at q
    · exact wpAny_is_self rfl q
    · exact is_none_ne hn q
  | isnt =>
    cases rb.inv_none
    rcases ra.noneOr with ⟨e, rfl⟩ | ⟨e, hn⟩ <;> rw [e] at q
    · exact wpAny_isNot_self rfl q
    · exact isnot_none_ne hn q
  | inn h => exact s_in false hg h I ra rb hQ
  | nin h => exact s_in true hg h I ra rb hQ
end
end Mine
end
section
open PySem PySem.W PyProof.Rows PySem.SeqAt
namespace Mine
section
variable {pe : Pe} {cx : Cx} {n : Nat} {sc : Sc} {loc : Loc} {H H1 H2 H3 : Hp} {u v w x : V} {a b c : Expr} {p : Pos} {t : Bool}

theorem Cn.units {A env ρ s} (C : Cn cx (n + 1) sc loc H A env ρ s) : A.units + 20 < cLine := Nat.lt_of_lt_of_le (Nat.lt_of_le_of_lt (Nat.add_le_add_left (Nat.le_mul_of_pos_right 20 (Nat.succ_pos n)) _) C.ar.units) (by decide)

theorem wpAny_IfExp {M : Model} {A : Around} {E : Value → Shared → Prop} {s : Shared} {env : Env} {Q : Value → Shared → Prop}
    (h : wpAny M A (isTrue c env (eval c env)) (fun t s₁ => wpAny M A (eval (bif t then a else b) env) Q E s₁) E s) : wpAny M A (eval (.IfExp c a b p) env) Q E s := by
  rw [arm_eval_IfExp]
  refine wpAny_bind (wpAny_mono h (fun t s₁ h₁ => ?_) fun _ _ e => e)
  cases t <;> exact h₁

theorem e_Const {k : Const} {j : Nat} (h : cst k = some v) : GE cx (n + 1) sc loc (.Constant k j p) H v H := fun C hQ => s_Constant h C.inv fun u s' S q => hQ u s' _ S q
theorem e_Name (P : PeOk pe cx) {x : Str} (h : look pe sc loc x = some v) : GE cx (n + 1) sc loc (.Name x p) H v H := fun C hQ => s_Name P h C.en C.inv C.vars fun u q => hQ u _ _ (Stp.refl _ C.inv) q
theorem e_Bin {op : Operator} (h1 : GE cx n sc loc a H u H1) (h2 : GE cx n sc loc b H1 w H2) (h3 : Bin H2 op u w v H3) : GE cx (n + 1) sc loc (.BinOp a op b p) H v H3 := fun C hQ =>
  wpAny_BinOp (h1 C.low fun _ _ _ S1 r1 => h2 (C.low.step S1) fun _ _ _ S2 r2 => s_binop h3 S2.inv (S2.rep S1.inv r1) r2 fun w s3 ρ3 S3 r3 => hQ w s3 ρ3 ((S1.trans S2).trans S3) r3)
theorem e_If (h1 : GT cx n sc loc c H t H1) (h2 : GE cx n sc loc (bif t then a else b) H1 v H2) : GE cx (n + 1) sc loc (.IfExp c a b p) H v H2 := fun C hQ =>
  wpAny_IfExp (h1 C.low fun _ _ S1 => h2 (C.low.step S1) fun _ _ _ S2 r2 => hQ _ _ _ (S1.trans S2) r2)
theorem noMarks {op : CmpOp} {b : Expr} (h : isSetE b = false) : behindInMarks op b = false := by
  cases b <;> first | rfl | cases h
theorem e_Cmp {op : CmpOp} (P : PeOk pe cx) (hs : isSetE b = false) (h1 : GE cx n sc loc a H u H1) (h2 : GE cx n sc loc b H1 w H2) (h3 : Cmp H2 op u w t) : GE cx (n + 1) sc loc (.Compare a [op] [b] p) H (.bool t) H2 := fun C hQ =>
  wpAny_Compare1 (h1 C.low fun _ _ _ S1 r1 => h2 (C.low.step S1) fun _ _ _ S2 r2 => s_cmp P.sys C.units h3 S2.inv (S2.rep S1.inv r1) r2 fun s3 S3 => hQ _ s3 _ ((S1.trans S2).trans S3) (.bool _)) (noMarks hs)
theorem t_Cmp {op : CmpOp} (P : PeOk pe cx) (hs : isSetE b = false) (h1 : GE cx n sc loc a H u H1) (h2 : GE cx n sc loc b H1 w H2) (h3 : Cmp H2 op u w t) : GT cx (n + 1) sc loc (.Compare a [op] [b] p) H t H2 := fun C hQ =>
  wpAny_isTrue_Compare1 (h1 C.low fun _ _ _ S1 r1 => h2 (C.low.step S1) fun _ _ _ S2 r2 => s_cmp P.sys C.units h3 S2.inv (S2.rep S1.inv r1) r2 fun s3 S3 => wpAny_truthy_bool (hQ s3 _ ((S1.trans S2).trans S3))) (noMarks hs)
theorem e_Not (P : PeOk pe cx) (h1 : GE cx n sc loc a H u H1) (h2 : truth H1 u = some t) : GE cx (n + 1) sc loc (.UnaryOp .Not a p) H (.bool (!t)) H1 := fun C hQ => by
  rw [arm_eval_UnaryOp]
  exact wpAny_bind (h1 C.low fun _ _ _ S1 r1 => wpAny_bind (wpAny_standAt (wpAny_holding (not_of (s_truth P.sys h2 S1.inv r1 fun s2 S2 => hQ _ _ _ (S1.trans S2) (.bool _))))))
theorem e_Neg {k : Int} (h1 : GE cx n sc loc a H (.int k) H1) : GE cx (n + 1) sc loc (.UnaryOp .USub a p) H (.int (-k)) H1 := fun C hQ => by
  rw [arm_eval_UnaryOp]
  refine wpAny_bind (h1 C.low fun _ _ _ S1 r1 => wpAny_bind (wpAny_standAt (wpAny_holding ?_)))
  obtain ⟨t, rfl⟩ := r1.inv_int
  exact P.neg_int (hQ _ _ _ (S1.trans (Stp.toks _ S1.inv)) (.int _ _))
theorem t_Not (h1 : GT cx n sc loc a H t H1) : GT cx (n + 1) sc loc (.UnaryOp .Not a p) H (!t) H1 := fun C hQ => by
  rw [arm_isTrue_UnaryOp]
  exact wpAny_bind (h1 C.low fun _ _ S1 => wpAny_pure (hQ _ _ S1))
theorem isTrue_plain {env : Env} (h : plainT a = true) (m : Sem Value) : isTrue a env m = (do let v ← m; standAt a.pos; holding [v] (truthy v)) := by
  cases a with
  | UnaryOp op x q => cases op <;> first | rfl | cases h
  | _ => first | rfl | cases h
theorem t_Gen (P : PeOk pe cx) (hp : plainT a = true) (h1 : GE cx n sc loc a H u H1) (h2 : truth H1 u = some t) : GT cx (n + 1) sc loc a H t H1 := fun C hQ => by
  rw [isTrue_plain hp]
  exact wpAny_bind (h1 C.low fun _ _ _ S1 r1 => wpAny_bind (wpAny_standAt (wpAny_holding (s_truth P.sys h2 S1.inv r1 fun s2 S2 => hQ s2 _ (S1.trans S2)))))

-- and, or
theorem b_one {op : BoolOp} (h1 : GE cx n sc loc a H v H1) : GBo cx n sc loc op [a] H v H1 := fun C hQ => h1 C hQ
theorem bool_eq {pos : Pos} {op : BoolOp} {env : Env} {es : List Expr} : boolOp pos op (evalEach (a :: b :: es) env) = (do
      let v ← eval a env
      standAt pos
      let t ← holding [v] (truthy v)
      bif t == (op == .Or) then pure v else boolOp pos op (evalEach (b :: es) env)) := by
  show (do let v ← eval a env; standAt pos; let t ← holding [v] (truthy v); match op, t with | .And, false | .Or, true => pure v | _, _ => boolOp pos op (evalEach (b :: es) env)) = _
  congr; funext v; congr; funext _; congr; funext t
  cases op <;> cases t <;> rfl
theorem b_stop (P : PeOk pe cx) {op : BoolOp} {es : List Expr} (h1 : GE cx n sc loc a H v H1) (h2 : truth H1 v = some t) (h3 : (t == (op == .Or)) = true) : GBo cx n sc loc op (a :: b :: es) H v H1 := fun C hQ => by
  rw [bool_eq]
  refine wpAny_bind (h1 C fun _ _ _ S1 r1 => wpAny_bind (wpAny_standAt (wpAny_bind (wpAny_holding (s_truth P.sys h2 S1.inv r1 fun s2 S2 => ?_)))))
  rw [h3]; exact wpAny_pure (hQ _ _ _ (S1.trans S2) (S2.rep S1.inv r1))
theorem b_go (P : PeOk pe cx) {op : BoolOp} {es : List Expr} (h1 : GE cx n sc loc a H v H1) (h2 : truth H1 v = some t) (h3 : (t == (op == .Or)) = false) (h4 : GBo cx n sc loc op (b :: es) H1 w H2) : GBo cx n sc loc op (a :: b :: es) H w H2 := fun C hQ => by
  rw [bool_eq]
  refine wpAny_bind (h1 C fun _ _ _ S1 r1 => wpAny_bind (wpAny_standAt (wpAny_bind (wpAny_holding (s_truth P.sys h2 S1.inv r1 fun s2 S2 => ?_)))))
  rw [h3]; exact h4 ((C.step S1).step S2) fun v s' ρ' S3 r3 => hQ v s' ρ' ((S1.trans S2).trans S3) r3
theorem e_Bool {op : BoolOp} {vs : List Expr} (h : GBo cx n sc loc op vs H v H1) : GE cx (n + 1) sc loc (.BoolOp op vs p) H v H1 := fun C hQ => by
  rw [arm_eval_BoolOp]; exact h C.low hQ
theorem ts_nil {op : BoolOp} : GTs cx n sc loc op [] H (op == .And) H := fun C hQ => by
  rw [arm_allTrue_nil]; exact wpAny_pure (hQ _ _ (Stp.refl _ C.inv))
theorem test_eq {op : BoolOp} {env : Env} {es : List Expr} : allTrue op (a :: es) env = (do let t ← isTrue a env (eval a env); bif t == (op == .Or) then pure t else allTrue op es env) := by
  rw [arm_allTrue_cons]
  congr; funext t
  cases op <;> cases t <;> rfl
theorem ts_stop {op : BoolOp} {es : List Expr} (h1 : GT cx n sc loc a H t H1) (h3 : (t == (op == .Or)) = true) : GTs cx n sc loc op (a :: es) H t H1 := fun C hQ => by
  rw [test_eq]
  refine wpAny_bind (h1 C fun _ _ S1 => ?_)
  rw [h3]; exact wpAny_pure (hQ _ _ S1)
theorem ts_go {op : BoolOp} {es : List Expr} {r : Bool} (h1 : GT cx n sc loc a H t H1) (h3 : (t == (op == .Or)) = false) (h4 : GTs cx n sc loc op es H1 r H2) : GTs cx n sc loc op (a :: es) H r H2 := fun C hQ => by
  rw [test_eq]
  refine wpAny_bind (h1 C fun _ _ S1 => ?_)
  rw [h3]; exact h4 (C.step S1) fun s' ρ' S3 => hQ s' ρ' (S1.trans S3)
theorem t_Bool {op : BoolOp} {vs : List Expr} (h : GTs cx n sc loc op vs H t H1) : GT cx (n + 1) sc loc (.BoolOp op vs p) H t H1 := fun C hQ => by
  rw [arm_isTrue_BoolOp]; exact h C.low hQ

-- tests of a comprehension
theorem gi_nil : GIf cx n sc loc [] H true H := fun C hQ => wpAny_pure (hQ _ _ (Stp.refl _ C.inv))
theorem tests_false {A : Around} {E} {s : Shared} {env : Env} {Q : Bool → Shared → Prop} (h : Q false s) : ∀ (ifs : List Expr),
    wpAny cx.M A (forIn ifs false fun c r => if r = true then do let ok ← isTrue c env (eval c env); pure (ForInStep.yield ok) else pure (ForInStep.yield r)) Q E s
  | [] => wpAny_pure h
  | c :: cs => by
    rw [List.forIn_cons, if_neg Bool.false_ne_true]
    exact wpAny_bind (wpAny_pure (tests_false h cs))
theorem gi_false {cs : List Expr} (h1 : GT cx n sc loc c H false H1) : GIf cx n sc loc (c :: cs) H false H1 := fun C hQ => by
  rw [List.forIn_cons, if_pos rfl]
  exact wpAny_bind (wpAny_bind (h1 C fun s1 ρ1 S1 => wpAny_pure (tests_false (hQ s1 ρ1 S1) cs)))
theorem gi_true {cs : List Expr} (h1 : GT cx n sc loc c H true H1) (h2 : GIf cx n sc loc cs H1 t H2) : GIf cx n sc loc (c :: cs) H t H2 := fun C hQ => by
  rw [List.forIn_cons, if_pos rfl]
  exact wpAny_bind (wpAny_bind (h1 C fun s1 ρ1 S1 => wpAny_pure (h2 (C.step S1) fun s2 ρ2 S2 => hQ s2 ρ2 (S1.trans S2))))
end
end Mine
end
section
open PySem PySem.W PyProof.Rows PySem.SeqAt
namespace Mine

theorem wpAny_keepMarked {α : Type} {M : Model} {A : Around} {E : Value → Shared → Prop} {s : Shared} {vs : List Value} {m : Sem α} {Q : α → Shared → Prop} (h : wpAny M A m Q E s) : wpAny M A (m.keep vs) Q E s :=
  fun Γ p hΓ => by rw [Sem.wp_keep]; exact h Γ p hΓ

/-- a call's callee may be looked at -/
noncomputable def Kpr (cx : Cx) (fv : Value) (s : Shared) : Prop := ∀ {A : Around} {Q : Keeper → Shared → Prop} {E : Value → Shared → Prop}, (∀ k, Q k s) → wpAny cx.M A (keeperOf fv) Q E s

theorem wpAny_ite2 {α : Type} {M : Model} {A : Around} {s : Shared} {E : Value → Shared → Prop} {Q : α → Shared → Prop} {p : Prop} [Decidable p] {x m : Sem α} (hx : wpAny M A x Q E s) (hm : wpAny M A m Q E s) : wpAny M A (if p then x else m) Q E s := by
  by_cases h : p
  · rw [if_pos h]; exact hx
  · rw [if_neg h]; exact hm
theorem s_callWith {cx : Cx} {A : Around} {s : Shared} {E : Value → Shared → Prop} {pos : Pos} {fv : Value} {first : List Value} {args : List (Bool × Sem Value)} {kws : List (Option Str × Sem Value)} {Q : Value → Shared → Prop}
    (h : wpAny cx.M A (evalArgs fv true args kws) (fun a s₁ => Kpr cx fv s₁ ∧ wpAny cx.M A (call fv (first ++ a.pos) a.kw) Q E s₁) E s) : wpAny cx.M A (callWith pos fv first args kws) Q E s := by
  unfold callWith
  refine wpAny_bind (wpAny_holding (wpAny_mono h (fun a s₁ h₁ => ?_) fun _ _ e => e))
  refine wpAny_bind (wpAny_standAt ?_)
  refine wpAny_bind (h₁.1 fun k => ?_)
  have fin : ∀ (v : Value) (s₂ : Shared), Q v s₂ → wpAny cx.M A (do holding [v] point; pure v) Q E s₂ := fun v s₂ h₂ => wpAny_bind (wpAny_holding (wpAny_point (wpAny_pure h₂)))
  have c := wpAny_mono h₁.2 fin fun _ _ e => e
  generalize (args.any (·.1) || kws.any (·.1.isNone)) = b
  cases k <;> cases b <;> first | exact wpAny_bind c | exact wpAny_bind (wpAny_keepMarked c) | exact wpAny_bind (wpAny_operate' c) | exact wpAny_ite2 (wpAny_bind c) (wpAny_bind (wpAny_keepMarked c))

section
variable {pe : Pe} {cx : Cx} {n : Nat} {sc : Sc} {loc : Loc} {H H1 H2 : Hp} {u : V} {a : Expr} {es : List Expr} {xs : List V} {ks : List Keyword} {kx : List (Str × V)}

theorem starEach_plain {e : Expr} {es : List Expr} {env : Env} (h : isStar e = false) : starEach (e :: es) env = (false, eval e env) :: starEach es env := by
  cases e <;> first | rfl | cases h
theorem l_nil : GL cx n sc loc [] H [] H := ⟨fun _ _ => rfl, fun _ => .inl ⟨rfl, rfl, rfl⟩, fun C hQ => Calls.spliced_nil (hQ _ _ _ (Stp.refl _ C.inv) .nil)⟩
theorem l_cons (hs : isStar a = false) (h1 : GE cx n sc loc a H u H1) (h2 : GL cx n sc loc es H1 xs H2) : GL cx n sc loc (a :: es) H (u :: xs) H2 := by
  refine ⟨fun pos env => ?_, fun env => .inr ⟨_, _, rfl, starEach_plain hs⟩, fun {A env ρ s pos Q E} C hQ => ?_⟩
  · rw [starEach_plain hs]; exact h2.1 pos env
  · rw [starEach_plain hs]
    exact Calls.spliced_cons (h1 C fun _ _ _ S1 r1 => h2.2.2 (C.step S1) fun vs s2 ρ2 S2 r2 => hQ _ _ _ (S1.trans S2) (.cons (S2.rep S1.inv r1) r2))
theorem k_nil : GKw cx n sc loc [] H [] H := ⟨fun _ _ => ⟨rfl, rfl⟩, fun C hQ => wpAny_pure (hQ _ _ _ (Stp.refl _ C.inv) .nil)⟩
theorem k_cons {k : Str} {p : Pos} (h1 : GE cx n sc loc a H u H1) (h2 : GKw cx n sc loc ks H1 kx H2) : GKw cx n sc loc (⟨some k, a, p⟩ :: ks) H ((k, u) :: kx) H2 := by
  refine ⟨fun pos env => ⟨?_, ?_⟩, fun {A env ρ s pos Q E} C hQ => ?_⟩
  · rw [arm_keywordEach_cons]; exact (h2.1 pos env).1
  · rw [arm_keywordEach_cons]
    show k :: (backToKw pos (keywordEach ks env)).filterMap (·.1) = _
    rw [(h2.1 pos env).2]; rfl
  · rw [arm_keywordEach_cons]
    show wpAny _ _ (do let v ← (do let v ← eval a env; standAt pos; pure v); return v :: (← holding [v] (evalAll ((backToKw pos (keywordEach ks env)).map (·.2))))) Q E s
    exact wpAny_bind (wpAny_bind (h1 C fun _ _ _ S1 r1 => wpAny_bind (wpAny_standAt (wpAny_pure (wpAny_bind (wpAny_holding (h2.2 (C.step S1) fun vs s2 ρ2 S2 r2 => wpAny_pure (hQ _ _ _ (S1.trans S2) (.cons (S2.rep S1.inv r1) r2))))))))) 

theorem zip_fst {α β : Type} : ∀ {l : List α} {m : List β}, l.length = m.length → (l.zip m).map (·.1) = l
  | [], [], _ => rfl
  | a :: l, b :: m, h => by simp [zip_fst (l := l) (m := m) (by simpa using h)]
theorem zip_snd {α β : Type} : ∀ {l : List α} {m : List β}, l.length = m.length → (l.zip m).map (·.2) = m
  | [], [], _ => rfl
  | a :: l, b :: m, h => by simp [zip_snd (l := l) (m := m) (by simpa using h)]

theorem evalArgs_sound {pos : Pos} {A : Around} {env : Env} {s ρ} {f : Value} {Q : Args → Shared → Prop} {E} (h1 : GL cx n sc loc es H xs H1) (h2 : GKw cx n sc loc ks H1 kx H2) (C : Cn cx n sc loc H A env ρ s)
    (hQ : ∀ a s' ρ', Stp cx NoW ρ H s ρ' H2 s' → RepL H2.n ρ' s'.heap a.pos xs → RepK H2.n ρ' s'.heap a.kw kx → Q a s') : wpAny cx.M A (evalArgs f true (backTo pos (starEach es env)) (backToKw pos (keywordEach ks env))) Q E s := by
  obtain ⟨nm1, nm2⟩ := h2.1 pos env
  have go : ∀ (vs : List Value) (s1 : Shared) (ρ1 : Nat → Addr) (S1 : Stp cx NoW ρ H s ρ1 H1 s1) (r1 : RepL H1.n ρ1 s1.heap vs xs),
      wpAny cx.M A (evalAll ((backToKw pos (keywordEach ks env)).map (·.2))) (fun ks' s₂ => Q ⟨vs, ((backToKw pos (keywordEach ks env)).filterMap (·.1)).zip ks'⟩ s₂) E s1 := fun vs s1 ρ1 S1 r1 =>
    h2.2 (C.step S1) fun ws s2 ρ2 S2 r2 => by
      have hl : (kx.map (·.1)).length = ws.length := by rw [r2.length, List.length_map, List.length_map]
      rw [nm2]
      exact hQ _ _ _ (S1.trans S2) (S2.repL S1.inv r1) ⟨zip_fst hl, by rw [zip_snd hl]; exact r2⟩
  rcases h1.2.1 env with ⟨rfl, rfl, rfl⟩ | ⟨e, es', rfl, he⟩
  · exact evalArgs_kw_nil nm1 (go [] s ρ (Stp.refl _ C.inv) .nil)
  · have sp := h1.2.2 (pos := pos) (E := E) C go
    rw [he] at sp ⊢
    exact evalArgs_kw nm1 sp
end
end Mine
end
section
open PySem PySem.W PyProof.Rows PySem.SeqAt
namespace Mine
section
variable {pe : Pe} {cx : Cx} {n : Nat} {sc : Sc}

theorem xs_sound_nil {loc H} : GXs cx n sc [] loc H .next loc H := fun C hQ => wpAny_execs_nil (hQ _ _ _ (Stp.refl _ C.inv) C.vars .next)
theorem xs_sound_cons {st : Stmt} {body : List Stmt} {loc loc1 loc' : Loc} {H H1 H2 : Hp} {fl : Fl} (h1 : GX cx n sc st loc H .next loc1 H1) (h2 : GXs cx n sc body loc1 H1 fl loc' H2) : GXs cx n sc (st :: body) loc H fl loc' H2 := fun C hQ => by
  refine wpAny_execs_cons (h1 C fun f s1 ρ1 S1 X1 r1 => ?_)
  cases r1
  exact h2 (C.to S1.inv X1) fun f s2 ρ2 S2 X2 r2 => hQ _ _ _ (S1.transW S2 (X1.notW S2)) X2 r2
theorem xs_sound_stop {st : Stmt} {body : List Stmt} {loc loc' : Loc} {H H1 : Hp} {fl : Fl} (h1 : GX cx n sc st loc H fl loc' H1) (h2 : isNext fl = false) : GXs cx n sc (st :: body) loc H fl loc' H1 := fun C hQ => by
  refine wpAny_execs_cons (h1 C fun f s1 ρ1 S1 X1 r1 => ?_)
  cases r1 with
  | next => cases h2
  | brk => exact hQ _ _ _ S1 X1 .brk
  | cont => exact hQ _ _ _ S1 X1 .cont
  | ret q => exact hQ _ _ _ S1 X1 (.ret q)

theorem bindL_other {kindOf : Str → Option NameKind} : ∀ {binds : List (Str × Value)} {m : Str → Option Value} {x : Str}, x ∉ binds.map (·.1) → bindL kindOf binds m x = m x
  | [], _, _, _ => rfl
  | (y, v) :: r, m, x, h => by
    have h1 : x ≠ y := fun e => h (by simp [e])
    have h2 : x ∉ r.map (·.1) := fun e => h (by simp at e ⊢; exact .inr e)
    unfold bindL
    rw [bindL_other h2]
    split
    · exact if_neg h1
    · rfl
theorem bindL_get {kindOf : Str → Option NameKind} : ∀ {binds : List (Str × Value)} {m : Str → Option Value} {x : Str} {u : Value}, (binds.map (·.1)).Nodup → (x, u) ∈ binds → kindOf x = some .local → bindL kindOf binds m x = some u
  | (y, v) :: r, m, x, u, hn, hm, hk => by
    rw [List.map_cons, List.nodup_cons] at hn
    unfold bindL
    rcases List.mem_cons.mp hm with e | hm
    · cases e
      rw [bindL_other hn.1, if_pos hk]; exact if_pos rfl
    · exact bindL_get hn.2 hm hk
theorem bindC_other {kindOf : Str → Option NameKind} : ∀ {binds : List (Str × Value)} {m : Str → Option Value} {x : Str}, x ∉ binds.map (·.1) → bindC kindOf binds m x = m x
  | [], _, _, _ => rfl
  | (y, v) :: r, m, x, h => by
    have h1 : x ≠ y := fun e => h (by simp [e])
    have h2 : x ∉ r.map (·.1) := fun e => h (by simp at e ⊢; exact .inr e)
    unfold bindC
    rw [bindC_other h2]
    split
    · rfl
    · exact if_neg h1
theorem bindC_get {kindOf : Str → Option NameKind} : ∀ {binds : List (Str × Value)} {m : Str → Option Value} {x : Str} {u : Value}, (binds.map (·.1)).Nodup → (x, u) ∈ binds → kindOf x ≠ some .local → bindC kindOf binds m x = some u
  | (y, v) :: r, m, x, u, hn, hm, hk => by
    rw [List.map_cons, List.nodup_cons] at hn
    unfold bindC
    rcases List.mem_cons.mp hm with e | hm
    · cases e
      rw [bindC_other hn.1, if_neg hk]; exact if_pos rfl
    · exact bindC_get hn.2 hm hk

theorem cellsFrom_mem {x : Str} : ∀ {names : List (Str × NameKind)} {k : Nat} {acc : List (Str × Addr)}, ((x, .cell) ∈ names ∨ x ∈ acc.map (·.1)) → x ∈ (cellsFrom k names acc).map (·.1)
  | [], _, _, h => by rcases h with h | h; cases h; exact h
  | (y, kd) :: r, k, acc, h => by
    unfold cellsFrom
    split
    · refine cellsFrom_mem ?_
      rcases h with h | h
      · rcases List.mem_cons.mp h with e | h
        · cases e; exact .inr (by simp)
        · exact .inl h
      · exact .inr (by simp at h ⊢; exact .inr h)
    · rename_i hk
      refine cellsFrom_mem ?_
      rcases h with h | h
      · rcases List.mem_cons.mp h with e | h
        · cases e; exact absurd rfl hk
        · exact .inl h
      · exact .inr h
theorem lookup_of_mem {α : Type} {x : Str} : ∀ {l : List (Str × α)}, x ∈ l.map (·.1) → ∃ c, l.lookup x = some c
  | (y, c) :: r, h => by
    rw [List.lookup_cons]
    cases hb : x == y with
    | true => exact ⟨c, rfl⟩
    | false =>
      refine lookup_of_mem ?_
      rw [List.map_cons, List.mem_cons] at h
      rcases h with e | h
      · rw [e] at hb; simp at hb
      · exact h

theorem lookup_map {x : Str} {v : V} (g : Src → V) : ∀ {ps : List (Str × Src)}, (ps.map fun p => (p.1, g p.2)).lookup x = some v → ∃ (j : Nat) (p : Str × Src), ps[j]? = some p ∧ p.1 = x ∧ v = g p.2
  | p :: ps, h => by
    rw [List.map_cons, List.lookup_cons] at h
    cases hb : x == p.1 with
    | true => rw [hb] at h; cases h; exact ⟨0, p, rfl, (beq_iff_eq.mp hb).symm, rfl⟩
    | false =>
      rw [hb] at h
      obtain ⟨j, q, h1, h2, h3⟩ := lookup_map g h
      exact ⟨j + 1, q, by simpa using h1, h2, h3⟩

theorem Srcs.length {g vs kvs} : ∀ {ps : List (Str × Src)} {us : List Value}, Srcs g vs kvs ps us → us.length = ps.length
  | _, _, .nil => rfl
  | _, _, .cons _ r => congrArg (· + 1) r.length
theorem Srcs.get {g vs kvs} : ∀ {ps : List (Str × Src)} {us : List Value}, Srcs g vs kvs ps us → ∀ (j : Nat) {p u}, ps[j]? = some p → us[j]? = some u → SrcV g vs kvs p.2 u
  | _, _, .cons h _, 0, _, _, e1, e2 => by cases e1; cases e2; exact h
  | _, _, .cons _ r, j + 1, _, _, e1, e2 => r.get j e1 e2
theorem run_sound (P : PeOk pe cx) {f : Addr} {args : List V} {kws : List (Str × V)} {H H' : Hp} {x : V} {fd : FuncData} {ps : List (Str × Src)} {body : List Stmt} {fl : Fl} {loc' : Loc} (hfd : pe.fn f = some fd) (hps : pe.sig f args.length (kws.map (·.1)) ps) (hbody : fd.body = .stmts body) (hsc : fd.scope.names = sc)
    (h1 : GXs cx n sc body (ps.map fun p => (p.1, p.2.get args (kws.map (·.2)))) H fl loc' H') (h2 : flV fl = some x) : GRun cx n f args kws H x H' := by
  intro A s ρ vs kvs R a1 I ra rk hQ
  subst hsc
  have FO := P.fn hfd
  have SO := P.sig hfd hps
  obtain ⟨o, ho, hd⟩ := FO.obj
  refine codeAny_call_function (by have := a1.depth; simp only [recursionLimit]; lia) (I.keep f o ho) hd FO.cor FO.gen hbody (let ⟨c, o, vs, t, e1, e2, e3, e4⟩ := FO.code; ⟨c, o, vs, t, e1, I.keep _ _ e2, e3, e4⟩) ?_
  refine SO.bind I.keep (by rw [ra.length]) rk.names fun us hsrc => ?_
  have hus := hsrc.length
  have hz1 : ((ps.map (·.1)).zip us).map (·.1) = ps.map (·.1) := zip_fst (by simp [hus])
  rw [FO.clo]
  have hcell : ∀ {y}, fd.scope.names.lookup y = some .cell → ∀ k, ((cellsFrom k fd.scope.names []).lookup y).isSome = true := fun {y} hy k => by
    obtain ⟨c, hc⟩ := lookup_of_mem (cellsFrom_mem (k := k) (acc := []) (.inl (mem_of_lookup hy)))
    rw [hc]; rfl
  refine wpAny_newFunctionEnv_cells FO.kind (fun y hy => ?_) fun env he s1 C => ?_
  · have hy' : y.1 ∈ ps.map (·.1) := by rw [← hz1]; exact List.mem_map_of_mem hy
    obtain ⟨p, hp, e⟩ := List.mem_map.mp hy'
    rw [← e]
    rcases SO.kinds p hp with q | q
    · exact .inl q
    · exact .inr ⟨q, hcell q _⟩
  · have hk : ∀ b o, s.heap.get? b = some o → s1.heap.get? b = some o := C.toInCall.keep
    have hL : env.locals = s.heap.objs.size := by rw [he]; rfl
    obtain ⟨h₁, tk, hs1⟩ := C.toInCall.same
    have S0 : Stp cx NoW ρ H s ρ H s1 := Stp.grown _ I hk (by rw [hs1]) (by rw [hs1]; exact I.bare)
    have hgn : ∀ a, s.heap.objs.size ≤ a → cx.g.get? a = none := fun a ha => by
      cases e : cx.g.get? a with
      | none => rfl
      | some o => exact absurd (Heap.lt_size (I.keep a o e)) (Nat.not_lt.mpr ha)
    have hkd : ∀ y, env.kindOf y = fd.scope.names.lookup y := fun y => by rw [he]; rfl
    have hcl : ∀ y c, env.cells.lookup y = some c → s.heap.objs.size < c := fun y c e => by
      have := C.above y c (mem_of_lookup e); rw [hL] at this; exact this
    have N : EnvOk cx env fd.scope.names := ⟨by rw [he]; exact FO.kind, fun y k e => .inl (by rw [hkd]; exact e), by rw [he]; exact FO.glo, by rw [he]; exact FO.bui, ⟨_, by rw [he]; exact FO.code⟩, fun c P q e => by rw [he]; exact FO.lam c P q e⟩
    have hnd : (((ps.map (·.1)).zip us).map (·.1)).Nodup := by rw [hz1]; exact SO.nodup
    have hval : ∀ y v, (ps.map fun p => (p.1, p.2.get args (kws.map (·.2)))).lookup y = some v → ∃ u, (y, u) ∈ (ps.map (·.1)).zip us ∧ Rep H.n ρ s1.heap u v := fun y v e => by
      obtain ⟨j, p, hj, rfl, rfl⟩ := lookup_map (fun q => q.get args (kws.map (·.2))) e
      have hj' : j < ps.length := (List.getElem?_eq_some_iff.mp hj).1
      have hju : us[j]? = some us[j] := List.getElem?_eq_getElem (by lia)
      refine ⟨us[j], ?_, ?_⟩
      · refine List.mem_iff_getElem?.mpr ⟨j, ?_⟩
        rw [List.getElem?_zip_eq_some]
        exact ⟨by simp [hj], hju⟩
      · have hsv := hsrc.get j hj hju
        obtain ⟨pn, src⟩ := p
        cases src with
        | arg i =>
          obtain ⟨y, hy, q⟩ := ra.get' i hsv
          show Rep _ _ _ _ (args.getD i .none)
          rw [List.getD_eq_getElem?_getD, hy]; exact S0.rep I q
        | kw i =>
          obtain ⟨y, hy, q⟩ := rk.vals.get' i hsv
          show Rep _ _ _ _ ((kws.map (·.2)).getD i .none)
          rw [List.getD_eq_getElem?_getD, hy]; exact S0.rep I q
        | dflt v => exact hsv _ _ _ fun b o e => hk b o (I.keep b o e)
    have X : Vars cx env H.n ρ s1.heap (ps.map fun p => (p.1, p.2.get args (kws.map (·.2)))) := by
      refine ⟨⟨_, C.toInCall.ns, fun y v e k => ?_⟩, fun y v e k => ?_, fun i hi q => ?_, fun y c e i hi q => ?_, fun y c e => ⟨⟨_, C.cell y c e⟩, ?_, ?_⟩, fun y e => ?_, fun y z c e1 e2 => name_of_addr C.apart (mem_of_lookup e1) (mem_of_lookup e2), hgn _ (by rw [hL]; exact Nat.le_refl _)⟩
      · obtain ⟨u, hu, q⟩ := hval y v e
        exact ⟨u, bindL_get hnd hu k, q⟩
      · obtain ⟨u, hu, q⟩ := hval y v e
        have hnl : env.kindOf y ≠ some .local := by rcases k with k | k <;> rw [k] <;> simp
        have hyk : fd.scope.names.lookup y = some .cell := by
          obtain ⟨p, hp, e⟩ := List.mem_map.mp (show y ∈ ps.map (·.1) from by rw [← hz1]; exact List.mem_map_of_mem (f := (·.1)) hu)
          rcases SO.kinds p hp with q | q
          · rw [e] at q; rw [hkd] at hnl; exact absurd q hnl
          · rw [e] at q; exact q
        obtain ⟨c, hc⟩ := Option.isSome_iff_exists.mp (hcell hyk (s.heap.objs.size + 1))
        have hc' : env.cells.lookup y = some c := by rw [he]; exact hc
        exact ⟨c, u, hc', by have := C.cell y c hc'; rwa [bindC_get hnd hu hnl] at this, q⟩
      · have := I.lt hi; rw [q, hL] at this; exact Nat.lt_irrefl _ this
      · have hlt := I.lt hi; rw [q] at hlt; exact Nat.lt_irrefl _ (Nat.lt_trans (hcl y c e) hlt)
      · rw [hL]; exact Nat.ne_of_gt (hcl y c e)
      · exact hgn _ (Nat.le_of_lt (hcl y c e))
      · obtain ⟨c, hc⟩ := Option.isSome_iff_exists.mp (hcell (by rw [← hkd]; exact e) (s.heap.objs.size + 1))
        exact ⟨c, by rw [he]; exact hc⟩
    refine ⟨P.noLimit.keeps fun b o e => hk b o (I.keep b o e), codeAny_func ?_⟩
    have ar : Ar n (A.deeper env) := ⟨a1.handled, by have := a1.depth; show A.depth + 1 + 4 * n < 1000; lia, by have := a1.units; show A.units + 3 + 20 * n < 9900; lia⟩
    refine h1 ⟨ar, N, S0.inv, X⟩ fun fw s2 ρ2 S2 X2 r2 => ?_
    have S : Stp cx NoW ρ H s ρ2 H' s2 := ⟨S2.inv, S2.le, S2.agr, fun i h1 h2 => (by
      cases e : s.heap.get? (ρ2 i) with
      | none => rfl
      | some o => have := S2.fresh i h1 h2; rw [hk _ _ e] at this; cases this), fun a o e hm _ => S2.ext a o (hk a o e) hm fun w => by
      have hlt := Heap.lt_size e
      rcases w with w | ⟨y, w⟩
      · rw [w, hL] at hlt; exact Nat.lt_irrefl _ hlt
      · exact Nat.lt_irrefl _ (Nat.lt_trans (hcl y a w) hlt)⟩
    cases r2 with
    | next => cases h2; exact hQ _ _ _ S .none
    | ret q => cases h2; exact hQ _ _ _ S q
    | brk => cases h2
    | cont => cases h2
end
end Mine
end
section
open PySem PySem.W PyProof.Rows PySem.SeqAt
namespace Mine

theorem lookup_ne {α : Type} {p : Str × α} {l : List (Str × α)} {y : Str} (h : (y == p.1) = false) : (p :: l).lookup y = l.lookup y := by
  rw [List.lookup_cons, h]
theorem setL_eq {p : Str × V} {loc : Loc} {x : Str} {v : V} : setL (p :: loc) x v = if p.1 = x then (x, v) :: loc else p :: setL loc x v := rfl
theorem lookup_setL {loc : Loc} {x y : Str} {v : V} : (setL loc x v).lookup y = if y = x then some v else loc.lookup y := by
  induction loc with
  | nil =>
    by_cases h : y = x
    · rw [h, if_pos rfl]; exact List.lookup_cons_self
    · rw [if_neg h]; exact lookup_ne (beq_false_of_ne h)
  | cons p loc ih =>
    rw [setL_eq]
    by_cases hz : p.1 = x
    · rw [if_pos hz]
      by_cases h : y = x
      · rw [h, if_pos rfl]; exact List.lookup_cons_self
      · rw [if_neg h, lookup_ne (beq_false_of_ne h), lookup_ne (beq_false_of_ne (hz ▸ h))]
    · rw [if_neg hz]
      by_cases h : y = p.1
      · rw [if_neg (h ▸ hz), h, List.lookup_cons_self]; exact List.lookup_cons_self.symm
      · rw [lookup_ne (beq_false_of_ne h), lookup_ne (beq_false_of_ne h), ih]
theorem length_setL (loc : Loc) (x : Str) (v : V) : loc.length ≤ (setL loc x v).length ∧ (setL loc x v).length ≤ loc.length + 1 ∧ (loc.lookup x = none → (setL loc x v).length = loc.length + 1) := by
  induction loc with
  | nil => exact ⟨Nat.zero_le _, Nat.le_refl _, fun _ => rfl⟩
  | cons p loc ih =>
    rw [setL_eq]
    by_cases hz : p.1 = x
    · rw [if_pos hz]
      exact ⟨Nat.le_refl _, Nat.le_succ _, fun h => by rw [List.lookup_cons, beq_iff_eq.mpr hz.symm] at h; exact noS h.symm⟩
    · rw [if_neg hz]
      exact ⟨Nat.succ_le_succ ih.1, Nat.succ_le_succ ih.2.1, fun h => congrArg (· + 1) (ih.2.2 (by rw [lookup_ne (beq_false_of_ne fun q => hz q.symm)] at h; exact h))⟩

noncomputable def dObj (es : Array DictEntry) (k : Nat) : Obj := { cls := .type "dict", data := .dict es k }

theorem noRefKey {es : Array DictEntry} (hk : StrKeys es) : es.any (·.refKey) = false := by
  rw [Array.any_eq_false']; intro e he; obtain ⟨n, t, h⟩ := hk e he; simp [DictEntry.refKey, h]
theorem lookIn_of {es : Array DictEntry} {k : Nat} (hk : StrKeys es) (name : Str) : lookIn name (dObj es k) = some (nsFind es name) := by
  unfold lookIn dObj nsFind findBy
  dsimp only
  rw [← Array.find?_toList]
  cases e : es.toList.find? (·.key.isStr name) with
  | some en => rfl
  | none =>
    rw [Array.any_toList, noRefKey hk]; rfl

section
variable {cx : Cx} {A : Around} {s : Shared} {ρ : Nat → Addr} {H : Hp} {E : Value → Shared → Prop}

theorem Inv.inst (I : Inv cx ρ H s) {i C d : Nat} (hi : i < H.n) (e : H.f i = .inst C d) : d < H.n ∧ s.heap.get? (ρ i) = some (instObj C (ρ d)) := by
  have := I.objs i hi; rw [e] at this; exact this
theorem Inv.ns (I : Inv cx ρ H s) {d : Nat} {kvs : List (Str × V)} (hd : d < H.n) (e : H.f d = .ns kvs) :
    ∃ es k, s.heap.get? (ρ d) = some (dObj es k) ∧ StrKeys es ∧ es.size ≤ kvs.length ∧ (∀ x v, kvs.lookup x = some v → ∃ u, nsFind es x = some u ∧ Rep H.n ρ s.heap u v) ∧ ∀ x, kvs.lookup x = none → nsFind es x = none := by
  have := I.objs d hd; rw [e] at this; exact this

theorem instAt_of {h : Heap} {x C dx : Addr} {es : Array DictEntry} {k : Nat} (e : h.get? x = some (instObj C dx)) (e' : h.get? dx = some (dObj es k)) : InstAt h x (instObj C dx) C (some (dObj es k)) :=
  ⟨e, rfl, rfl, e'⟩

theorem handed_rep {n : Nat} {ρ : Nat → Addr} {h : Heap} {u : Value} {x : V} (r : Rep n ρ h u x) : handedIn u = true := by
  cases r <;> first | rfl | skip
  rename_i b; cases b <;> first | rfl | decide +kernel

theorem findObj_value {C : Addr} {es : Array DictEntry} {k : Nat} {name : Str} {m : Option Addr} {u : Value} (c : ClsOk cx C name m) (hk : StrKeys es) (hu : nsFind es name = some u) :
    findObj cx.K C (some (dObj es k)) name = some (.value u) := by
  obtain ⟨cd, hcd, hdict⟩ := c.cd
  unfold findObj
  rw [hcd, Option.bind_some, c.hf, Option.bind_some]
  have own : W.ownOf cd (some (dObj es k)) name = some (some u) := by
    unfold W.ownOf
    rw [if_pos hdict]
    show lookIn name (dObj es k) = _
    rw [lookIn_of hk, hu]
  cases m with
  | none => simp only [Option.map_none, Option.bind_some, own]
  | some f =>
    obtain ⟨_, h2, h3⟩ := c.fn f rfl
    simp only [Option.map_some, h2, Option.bind_some, h3, own]

theorem findObj_bind {C : Addr} {es : Array DictEntry} {k : Nat} {name : Str} {f : Addr} (c : ClsOk cx C name (some f)) (hk : StrKeys es) (hu : nsFind es name = none) :
    findObj cx.K C (some (dObj es k)) name = some (.bind (.builtin "function.__get__") (.ref f)) := by
  obtain ⟨cd, hcd, hdict⟩ := c.cd
  unfold findObj
  rw [hcd, Option.bind_some, c.hf, Option.bind_some]
  have own : W.ownOf cd (some (dObj es k)) name = some none := by
    unfold W.ownOf
    rw [if_pos hdict]
    show lookIn name (dObj es k) = _
    rw [lookIn_of hk, hu]
  obtain ⟨_, h2, h3⟩ := c.fn f rfl
  simp only [Option.map_some, h2, Option.bind_some, h3, own, c.cop, Bool.false_and, Bool.false_eq_true, if_false]

/-- an instance's attribute, as a value -/
theorem s_getInst {pe : Pe} (P : PeOk pe cx) {i C d : Nat} {kvs : List (Str × V)} {name : Str} {m : Option Addr} {x : V} {expr : Bool} {Q : Value → Shared → Prop}
    (hi : i < H.n) (e : H.f i = .inst C d) (ed : H.f d = .ns kvs) (hc : pe.cls C name = some m) (hx : (kvs.lookup name).or (m.map fun f => V.mt f (.ref i)) = some x) (I : Inv cx ρ H s)
    (hQ : ∀ v s', Stp cx NoW ρ H s ρ H s' → Rep H.n ρ s'.heap v x → Q v s') : wpAny cx.M A (getAttr (.ref (ρ i)) name expr) Q E s := by
  obtain ⟨hd, hx1⟩ := I.inst hi e
  obtain ⟨es, k, hd1, hk, _, h1, h2⟩ := I.ns hd ed
  have c := P.cls hc
  have X : cx.K.In s.heap := P.kin.keeps I.keep
  have J := instAt_of hx1 hd1
  cases hv : kvs.lookup name with
  | some v =>
    rw [hv] at hx
    cases hx
    obtain ⟨u, hu, ru⟩ := h1 _ _ hv
    exact get_value X J c.hga (findObj_value c hk hu) (handed_rep ru) (hQ _ _ (Stp.toks _ I) ru)
  | none =>
    rw [hv] at hx
    cases m with
    | none => cases hx
    | some f =>
      cases hx
      have hu := h2 _ hv
      refine get_bind X J c.hga (findObj_bind c hk hu) c.hk ?_
      have X' : cx.K.In ({ s with toks := s.toks + 1 } : Shared).heap := X
      refine wpAny_call (fn_get X' (c.fn f rfl).1 ?_)
      refine wpAny_of_eq (handedOut_of rfl) (hQ _ _ (Stp.grown _ I (fun _ _ e => Heap.get?_push_of_some _ e) rfl I.bare) (.mt (Heap.get?_push_size _ rfl) (.ref i hi)))
end
end Mine
end
section
open PySem PySem.W PyProof.Rows PySem.SeqAt
namespace Mine

theorem putName_spec {es : Array DictEntry} {k : Nat} (hk : StrKeys es) (name : Str) (hash : Int) (t : Tok) (v : Value) :
    ∃ es' k', Obj.putName name hash (.str name t) v (dObj es k) = dObj es' k' ∧ StrKeys es' ∧ es'.size ≤ es.size + 1 ∧ (nsFind es name ≠ none → es'.size = es.size) ∧ ∀ x, nsFind es' x = if x = name then some v else nsFind es x := by
  cases hi : es.findIdx? (·.key.isStr name) with
  | some i =>
    refine ⟨es.modify i fun e => { e with val := v }, k, by simp only [Obj.putName_eq, Obj.putNameByArray, dObj, hi], hk.modify _ _, by simp, fun _ => by simp, fun x => ?_⟩
    exact findBy_modify (fun n v => v.isStr n) Value.isStr_inj es name x v i hi
  | none =>
    refine ⟨es.push ⟨hash, .str name t, v⟩, k + 1, by simp only [Obj.putName_eq, Obj.putNameByArray, dObj, hi], hk.push _ _ _ _, by simp, fun h => absurd ?_ h, fun x => ?_⟩
    · unfold nsFind
      rw [findBy_of_findIdx?, hi]
    · exact findBy_push (fun n v => v.isStr n) es name x _ _ v (fun y => by
        show (name == y) = decide (y = name)
        by_cases h : y = name
        · subst h; simp
        · have : ¬ name = y := fun e => h e.symm
          simp [h, this]) hi

section
variable {cx : Cx} {A : Around} {s : Shared} {ρ : Nat → Addr} {H : Hp} {E : Value → Shared → Prop}

theorem s_setInst {pe : Pe} (P : PeOk pe cx) {i C d : Nat} {kvs : List (Str × V)} {name : Str} {m : Option Addr} {x : V} {v : Value} {Q : Unit → Shared → Prop}
    (hi : i < H.n) (e : H.f i = .inst C d) (ed : H.f d = .ns kvs) (hc : pe.cls C name = some m) (hl : kvs.length < 1000) (I : Inv cx ρ H s) (rv : Rep H.n ρ s.heap v x)
    (hQ : ∀ s', Stp cx NoW ρ H s ρ (H.put d (.ns (setL kvs name x))) s' → Q () s') : wpAny cx.M A (setAttr (.ref (ρ i)) name v) Q E s := by
  obtain ⟨hd, hx1⟩ := I.inst hi e
  obtain ⟨es, k, hd1, hk, hsz, h1, h2⟩ := I.ns hd ed
  have c := P.cls hc
  have X : cx.K.In s.heap := P.kin.keeps I.keep
  have J := instAt_of hx1 hd1
  obtain ⟨cd, hcd, hdict⟩ := c.cd
  refine set_plain X J c.hsa ?_
  have ht : takerIn cx.K C name = some none := by
    unfold takerIn
    rw [c.hf, Option.bind_some]
    cases m with
    | none => rfl
    | some f => show (takesIn cx.K (.ref f)).map _ = _; rw [(c.fn f rfl).2.2]; rfl
  have X' : cx.K.In ({ s with toks := s.toks + 1 } : Shared).heap := X
  refine osa_open (s := { s with toks := s.toks + 1 }) X' J c.over ht fun b => ?_
  obtain ⟨es', k', hp, hk', hz', hz'', hf'⟩ := putName_spec (k := k) hk name (PyData.keyHash cx.w.params name) (s.toks + 1) v
  refine wpAny_bind (wpAny_pure (wpAny_bind (wpAny_bind (wpAny_loadPart hx1 (wpAny_bind ((looks_clsIn X' hcd).here ?_))))))
  rw [hdict]
  refine wpAny_pure (a := some (ρ d)) (wpAny_bind (wpAny_pure (wpAny_bind ?_)))
  unfold nsSet
  refine wpAny_bind (wpAny_bind (wpAny_askSetting (wpAny_pure (wpAny_bind (wpAny_mkText (wpAny_bind (wpAny_loadPart hd1 ?_)))))))
  dsimp only [dObj]
  have cc : (!es.any (·.key.isStr name) && es.any (·.refKey)) = false := by rw [noRefKey hk, Bool.and_false]
  rw [aRefKeyMayBeTheName_at, cc]
  refine wpAny_updatePart hd1 ?_
  have U : (s.heap.update (ρ d) (Obj.putName name (PyData.keyHash cx.w.params name) (.str name (s.toks + 1)) v)).get? (ρ d) = some (dObj es' k') := by
    have := Heap.get?_update_self (Obj.putName name (PyData.keyHash cx.w.params name) (.str name (s.toks + 1)) v) hd1 (by rw [hp]; rfl)
    rwa [hp] at this
  have hsz' : es'.size ≤ 1001 := by lia
  refine wpAny_bind (wpAny_lookBehind U (by exact pastItsLine_dict (by rw [sizeLine_eq]; lia)) ?_)
  refine wpAny_pure (hQ _ ?_)
  refine Stp.put _ I hd (Heap.SameBut.update ..) ?_ rfl I.bare
  have K : Kp H.n ρ s.heap H.n ρ (s.heap.update (ρ d) (Obj.putName name (PyData.keyHash cx.w.params name) (.str name (s.toks + 1)) v)) := ⟨Nat.le_refl _, fun _ _ => rfl, fun a o e hc => (Heap.SameBut.update ..).extBut a o (fun q => I.notMut e hc d hd q.symm) e⟩
  have L := length_setL kvs name x
  refine ⟨es', k', U, hk', ?_, fun y w hy => ?_, fun y hy => ?_⟩
  · cases hn : kvs.lookup name with
    | none => rw [L.2.2 hn]; lia
    | some z =>
      obtain ⟨u, hu, _⟩ := h1 _ _ hn
      rw [hz'' (by rw [hu]; simp)]; lia
  · rw [lookup_setL] at hy
    rw [hf']
    by_cases hyn : y = name
    · rw [if_pos hyn] at hy ⊢; cases hy; exact ⟨v, rfl, rv.mono K⟩
    · rw [if_neg hyn] at hy ⊢
      obtain ⟨u, hu, ru⟩ := h1 _ _ hy
      exact ⟨u, hu, ru.mono K⟩
  · rw [lookup_setL] at hy
    rw [hf']
    by_cases hyn : y = name
    · rw [if_pos hyn] at hy; cases hy
    · rw [if_neg hyn] at hy ⊢; exact h2 _ hy
end
end Mine
end
section
open PySem PySem.W PyProof.Rows PySem.SeqAt
namespace Mine
section
variable {cx : Cx} {A : Around} {s : Shared} {ρ : Nat → Addr} {H : Hp} {E : Value → Shared → Prop}

theorem method_shadow {K : Frag} {prog : Program} {w : World} {x C f : Addr} {ox : Obj} {o : Obj} {name : Str} {v : Value} {pl : Sem Bool} {Q : Value × List Value → Shared → Prop} (X : K.In s.heap) (I : InstAt s.heap x ox C (some o)) (hga : findIn K (.ref C) "__getattribute__" = some (some (.builtin "object.__getattribute__"))) (hk : findIn K (.ref C) "__getattr__" = some none)
    (hf : findIn K (.ref C) name = some (some (.ref f))) (ht : typeIn K (.ref f) = some (.type "function")) (hs : lookIn name o = some (some v))
    (h : wpAny (model prog w) A (getAttr (.ref x) name) (fun v => Q (v, [])) E s) :
    wpAny (model prog w) A (getMethod (.ref x) name pl) Q E s := by
  have hcan := PySem.F.canon_object_ga
  have u : wpAny (model prog w) A (do return (← getAttr (.ref x) name, ([] : List Value))) Q E s := wpAny_bind (wpAny_mono h (fun _ _ z => wpAny_pure z) fun _ _ z => z)
  unfold getMethod specialOf
  refine wpAny_bind (wpAny_bind (I.type.here ((looks_findIn X hga).here ?_)))
  dsimp only
  rw [hcan, if_neg (by decide)]
  refine wpAny_bind (wpAny_bind (I.type.here ((looks_findIn X hk).here ?_)))
  refine wpAny_bind (wpAny_bind (I.type.here ((looks_findIn X hf).here (wpAny_bind ((looks_typeIn X ht).here ?_)))))
  rw [if_neg (by decide +kernel)]
  refine wpAny_bind (wpAny_loadPart I.at_ ?_)
  have hd := I.dict
  cases e : ox.dict with
  | none => rw [e] at hd; exact hd.elim
  | some dx =>
    rw [e] at hd
    refine wpAny_bind (wpAny_bind (wpAny_loadPart hd ?_))
    rw [nsLook_of hs]
    exact wpAny_pure u

theorem s_methInst {pe : Pe} (P : PeOk pe cx) {i C d : Nat} {kvs : List (Str × V)} {name : Str} {m : Option Addr} {x : V} {pl : Sem Bool} {Q : Value × List Value → Shared → Prop}
    (hi : i < H.n) (e : H.f i = .inst C d) (ed : H.f d = .ns kvs) (hc : pe.cls C name = some m) (hx : (kvs.lookup name).or (m.map fun f => V.mt f (.ref i)) = some x) (I : Inv cx ρ H s)
    (hQ : ∀ f first s', Stp cx NoW ρ H s ρ H s' → Cal H.n ρ s'.heap f first x → Q (f, first) s') : wpAny cx.M A (getMethod (.ref (ρ i)) name pl) Q E s := by
  obtain ⟨hd, hx1⟩ := I.inst hi e
  obtain ⟨es, k, hd1, hk, _, h1, h2⟩ := I.ns hd ed
  have c := P.cls hc
  have X : cx.K.In s.heap := P.kin.keeps I.keep
  have J := instAt_of hx1 hd1
  have G := s_getInst P (A := A) (E := E) (expr := false) (Q := fun v => Q (v, [])) hi e ed hc hx I fun v s' S r => hQ _ _ _ S (.obj r)
  cases hv : kvs.lookup name with
  | none =>
    rw [hv] at hx
    cases m with
    | none => cases hx
    | some f =>
      cases hx
      refine method_fn X J c.hga c.hk c.hf (c.fn f rfl).1 ?_ (hQ _ _ _ (Stp.refl _ I) (.mt (.ref i hi)))
      show (lookIn name (dObj es k)).map (·.isSome) = some false
      rw [lookIn_of hk, h2 _ hv]; rfl
  | some v =>
    cases m with
    | none => exact method_usual X J c.hga c.hk c.hf rfl G
    | some f =>
      obtain ⟨u, hu, _⟩ := h1 _ _ hv
      exact method_shadow X J c.hga c.hk c.hf (c.fn f rfl).1 (by rw [lookIn_of hk, hu]) G

theorem gm_str {name : Str} {id : String} {x : Str} {t : Tok} {pl : Sem Bool} {Q : Value × List Value → Shared → Prop} (slot : Slot "str" name id) (ty : typeOf (.builtin id) = pure (.type "method_descriptor")) (h : Q (.builtin id, [.str x t]) s) :
    wpAny cx.M A (getMethod (.str x t) name pl) Q E s := by
  have h1 : s.TypeIs (.str x t) "str" := typeIs_str _ _ _
  have h2 := @getMethod_builtin cx.M A E s (.str x t) "str" name id pl Q h1 F.plainAttrs_str slot ty GM.noRef h
  with_reducible exact h2

/-- the built-in methods, as the type has them -/
noncomputable def TabOk (T : String) (tab : List (Str × Pm)) : Prop := ∀ q ∈ tab, Slot T q.1 q.2.id ∧ typeOf (.builtin q.2.id) = pure (.type "method_descriptor")
theorem tab_cons {T : String} {q : Str × Pm} {tab : List (Str × Pm)} (h1 : Slot T q.1 q.2.id) (h2 : typeOf (.builtin q.2.id) = pure (.type "method_descriptor")) (h : TabOk T tab) : TabOk T (q :: tab) := fun r hr => by
  rcases List.mem_cons.mp hr with rfl | hr
  · exact ⟨h1, h2⟩
  · exact h r hr
theorem tab_nil {T : String} : TabOk T [] := fun _ h => nomatch h
theorem list_tab : TabOk "list" listTab := tab_cons F.slot_list_append F.type_list_append (tab_cons F.slot_list_pop F.type_list_pop (tab_cons F.slot_list_sort F.type_list_sort tab_nil))
theorem dict_tab : TabOk "dict" dictTab := tab_cons F.slot_dict_items F.type_dict_items (tab_cons F.slot_dict_get F.type_dict_get tab_nil)
theorem str_tab : TabOk "str" strTab := tab_cons F.slot_str_join F.type_str_join (tab_cons F.slot_str_strip F.type_str_strip (tab_cons F.slot_str_rsplit F.type_str_rsplit (tab_cons F.slot_str_split F.type_str_split tab_nil)))
theorem tab_get {tab : List (Str × Pm)} {name : Str} {f : Pm → V} {x : V} (h : (tab.lookup name).map f = some x) : ∃ p, (name, p) ∈ tab ∧ f p = x :=
  let ⟨p, h1, h2⟩ := map_some h; ⟨p, mem_of_lookup h1, h2⟩

theorem gm_ref {T : String} {tab : List (Str × Pm)} (ht : TabOk T tab) (hp : PlainAttrs T) {i : Nat} {o : Obj} {name : Str} {x : V} {pl : Sem Bool} {Q : Value × List Value → Shared → Prop} (hi : i < H.n) (ho : s.heap.get? (ρ i) = some o) (hc : o.cls = .type T) (hd : o.dict = none)
    (h : (tab.lookup name).map (fun p => V.bm p (.ref i)) = some x) (hQ : ∀ f first, Cal H.n ρ s.heap f first x → Q (f, first) s) : wpAny cx.M A (getMethod (.ref (ρ i)) name pl) Q E s := by
  obtain ⟨p, hm, rfl⟩ := tab_get h
  obtain ⟨h1, h2⟩ := ht _ hm
  exact getMethod_builtin ⟨o, ho, hc⟩ hp h1 h2 (fun a q => by cases q; exact ⟨o, ho, hd⟩) (hQ _ _ (.bm (.ref i hi)))

theorem s_getMethod {pe : Pe} (P : PeOk pe cx) {v x : V} {u : Value} {name : Str} {pl : Sem Bool} {Q : Value × List Value → Shared → Prop} (h : attr pe H name v = some x) (I : Inv cx ρ H s) (ru : Rep H.n ρ s.heap u v)
    (hQ : ∀ f first s', Stp cx NoW ρ H s ρ H s' → Cal H.n ρ s'.heap f first x → Q (f, first) s') : wpAny cx.M A (getMethod u name pl) Q E s := by
  have q := fun f first => hQ f first s (Stp.refl _ I)
  cases v with
  | ref i =>
    obtain ⟨hi, rfl⟩ := ru.inv_ref
    have h : attrR pe H name i (H.f i) = some x := h
    generalize e : H.f i = o at h
    cases o with
    | inst C d =>
      have h : fldN pe name i C (H.f d) = some x := h
      generalize ed : H.f d = o at h
      cases o with
      | ns kvs =>
        obtain ⟨m, hc, hx⟩ := Option.bind_eq_some_iff.mp h
        exact s_methInst P hi e ed hc hx I hQ
      | _ => first | exact noS h | exact noB h | cases h
    | list xs =>
      obtain ⟨vs, k, ho, _⟩ := I.list hi e
      exact gm_ref list_tab F.plainAttrs_list hi ho rfl rfl h q
    | dict kvs =>
      obtain ⟨ps, ⟨o, es, k, ho, hex, _⟩, _⟩ := I.dict hi e
      exact gm_ref dict_tab F.plainAttrs_dict hi ho hex.1 hex.2.1 h q
    | set ks =>
      have hS := I.objs i hi; rw [e] at hS
      obtain ⟨p, hm, rfl⟩ := tab_get h
      cases List.mem_singleton.mp hm
      exact getMethod_set_add hS.1.set (q _ _ (.bm (p := .sAdd) (.ref i hi)))
    | _ => first | exact noS h | exact noB h | cases h
  | str x =>
    obtain ⟨t, rfl⟩ := ru.inv_str
    obtain ⟨p, hm, rfl⟩ := tab_get h
    obtain ⟨h1, h2⟩ := str_tab _ hm
    have q := q (.builtin p.id) [.str x t] (.bm (.str x t))
    with_reducible exact gm_str h1 h2 q
  | _ => first | exact noS h | exact noB h | cases h
end
end Mine
end
section
open PySem PySem.W PyProof.Rows PySem.SeqAt
namespace Mine

theorem valueAt_lookup (ps : List (Str × Value)) (x : Str) : valueAt ps x = ps.lookup x := by
  unfold valueAt
  induction ps with
  | nil => rfl
  | cons p ps ih =>
    obtain ⟨y, u⟩ := p
    rw [List.find?_cons, List.lookup_cons]
    by_cases h : y = x
    · subst h; simp
    · have h' : (x == y) = false := by simpa using fun e => h e.symm
      simp only [h, decide_false, h']; exact ih

theorem lookup_rep {n ρ h} : ∀ {ps : List (Str × Value)} {kvs : List (Str × V)}, ps.map (·.1) = kvs.map (·.1) → RepL n ρ h (ps.map (·.2)) (kvs.map (·.2)) → ∀ x,
    (∀ v, kvs.lookup x = some v → ∃ u, ps.lookup x = some u ∧ Rep n ρ h u v) ∧ (kvs.lookup x = none → ps.lookup x = none)
  | [], [], _, _, x => by simp
  | (y, u) :: ps, (z, w) :: kvs, hn, r, x => by
    simp only [List.map_cons, List.cons.injEq] at hn
    obtain ⟨rfl, hn⟩ := hn
    cases r with | cons a b =>
    rw [List.lookup_cons, List.lookup_cons]
    cases hb : x == y with
    | true => exact ⟨fun v e => by cases e; exact ⟨u, rfl, a⟩, fun e => by cases e⟩
    | false => exact lookup_rep hn b x
  | [], _ :: _, hn, _, _ => by simp at hn
  | _ :: _, [], hn, _, _ => by simp at hn

section
variable {cx : Cx} {A : Around} {s : Shared} {ρ : Nat → Addr} {H : Hp} {E : Value → Shared → Prop}

/-- a list stored anew -/
theorem Stp.setList {i : Nat} {xs : List V} {vs : Array Value} {k : Nat} {s' : Shared} (I : Inv cx ρ H s) (hi : i < H.n) (hs : Heap.SameBut (ρ i) s.heap s'.heap)
    (e : s'.heap.get? (ρ i) = some { cls := .type "list", data := .seq vs k }) (r : RepL H.n ρ s.heap vs.toList xs) (hos : s'.os = s.os) (hb : AllBare s'.gens) : Stp cx NoW ρ H s ρ (H.put i (.list xs)) s' := by
  refine Stp.put _ I hi hs ⟨vs, k, e, r.mono ⟨Nat.le_refl _, fun _ _ => rfl, fun a o e hc => hs.extBut a o (fun q => I.notMut e hc i hi q.symm) e⟩⟩ hos hb

theorem p_append {i : Nat} {xs : List V} {v : Value} {x : V} {Q : Value → Shared → Prop} (hi : i < H.n) (e : H.f i = .list xs) (hl : xs.length < lim) (I : Inv cx ρ H s) (rv : Rep H.n ρ s.heap v x)
    (hQ : ∀ s', Stp cx NoW ρ H s ρ (H.put i (.list (xs ++ [x]))) s' → Q .none s') : wpAny cx.M A (call (.builtin "list.append") [.ref (ρ i), v]) Q E s := by
  obtain ⟨vs, k, ho, q⟩ := I.list hi e
  refine wpAny_list_append_plain ⟨k, ho⟩ (fun h' hp hs => hQ _ ?_) (by rw [size_of q, ← lim_eq]; lia)
  obtain ⟨k', ho'⟩ := hp
  exact Stp.setList I hi hs ho' (by rw [Array.toList_push]; exact q.snoc rv) rfl I.bare

theorem RepL.dropLast {n ρ h} : ∀ {vs xs}, RepL n ρ h vs xs → RepL n ρ h vs.dropLast xs.dropLast
  | _, _, .nil => .nil
  | _, _, .cons a .nil => .nil
  | _, _, .cons a (.cons b c) => by simp only [List.dropLast_cons_cons]; exact .cons a (RepL.dropLast (.cons b c))
theorem RepL.last {n ρ h} {vs : List Value} {xs : List V} {x : V} (r : RepL n ρ h vs xs) (e : xs.getLast? = some x) : ∃ v, vs.getLast? = some v ∧ Rep n ρ h v x := by
  rw [List.getLast?_eq_getElem?] at e ⊢
  obtain ⟨v, hv, q⟩ := r.get _ e
  exact ⟨v, by rw [r.length]; exact hv, q⟩

theorem p_pop {i : Nat} {xs : List V} {x : V} {Q : Value → Shared → Prop} (hi : i < H.n) (e : H.f i = .list xs) (hx : xs.getLast? = some x) (hl : xs.length ≤ lim) (I : Inv cx ρ H s)
    (hQ : ∀ v s', Stp cx NoW ρ H s ρ (H.put i (.list xs.dropLast)) s' → Rep H.n ρ s'.heap v x → Q v s') : wpAny cx.M A (call (.builtin "list.pop") [.ref (ρ i)]) Q E s := by
  obtain ⟨vs, k, ho, q⟩ := I.list hi e
  obtain ⟨v, hv, rv⟩ := q.last hx
  have hz := size_of q
  have hv' : vs[vs.size - 1]? = some v := by
    rw [List.getLast?_eq_getElem?] at hv; simpa using hv
  have S : Stp cx NoW ρ H s ρ (H.put i (.list xs.dropLast)) { s with heap := s.heap.update (ρ i) (Obj.mapSeq fun xs => xs.eraseIdxIfInBounds (vs.size - 1)) } := by
    refine Stp.setList I hi (Heap.SameBut.update ..) (Heap.get?_update_self _ ho rfl) ?_ rfl I.bare
    have : (vs.eraseIdxIfInBounds (vs.size - 1)).toList = vs.toList.dropLast := by
      have hne : vs.toList.length = (vs.size - 1) + 1 := by
        have : vs.size ≠ 0 := fun h0 => by rw [h0] at hv'; simp [Array.getElem?_eq_none (xs := vs) (i := 0 - 1) (by lia)] at hv'
        rw [Array.length_toList]; lia
      obtain ⟨l⟩ := vs
      simp only [List.size_toArray] at hne ⊢
      rw [List.eraseIdxIfInBounds_toArray, List.dropLast_eq_take, List.eraseIdx_eq_take_drop_succ, List.drop_eq_nil_of_le (by lia), List.append_nil]
    rw [this]; exact q.dropLast
  exact call_meets F.slot_list_pop ⟨_, ho, rfl⟩ F.entry_list_pop (F.args_list_pop_1 _) (MeetsSeq.list_pop_last (ρ i) vs k v hv' (by rw [hz, ← lim_eq]; exact hl)) ⟨ho, hQ _ _ S (S.rep I rv)⟩

theorem p_items {i : Nat} {kvs : List (Str × V)} {Q : Value → Shared → Prop} (hg : HasSys cx) (hi : i < H.n) (e : H.f i = .dict kvs) (I : Inv cx ρ H s)
    (hQ : ∀ v s', Stp cx NoW ρ H s ρ H s' → Rep H.n ρ s'.heap v (.view i) → Q v s') : wpAny cx.M A (call (.builtin "dict.items") [.ref (ρ i)]) Q E s := by
  obtain ⟨ps, hd, hn, q⟩ := I.dict hi e
  exact call_meetsIn F.slot_dict_items hd.typeIs F.entry_dict_items (F.args_dict_items_1 _) (meets_dict_items (PySem.strKind cx.prog cx.w) (ρ i) (I.notSys hg hi))
    ⟨⟨ps, hd⟩, hQ _ _ (Stp.grown _ I (fun _ _ e => Heap.get?_push_of_some _ e) rfl I.bare) (.view hi (Heap.get?_push_size _ rfl))⟩

theorem p_get {i : Nat} {kvs : List (Str × V)} {k : Str} {t : Tok} {Q : Value → Shared → Prop} (hg : HasSys cx) (hi : i < H.n) (e : H.f i = .dict kvs) (I : Inv cx ρ H s)
    (hQ : ∀ v s', Stp cx NoW ρ H s ρ H s' → Rep H.n ρ s'.heap v ((kvs.lookup k).getD .none) → Q v s') : wpAny cx.M A (call (.builtin "dict.get") [.ref (ρ i), .str k t]) Q E s := by
  obtain ⟨ps, hd, hn, q⟩ := I.dict hi e
  refine call_meetsIn F.slot_dict_get hd.typeIs F.entry_dict_get (F.args_dict_get_2 _ _) (meets_dict_get (PySem.strKind cx.prog cx.w) (ρ i) (is_str k t) (I.notSys hg hi)) ⟨_, hd.mapOf, hQ _ _ (Stp.toks _ I) ?_⟩
  rw [valueAt_lookup]
  obtain ⟨h1, h2⟩ := lookup_rep hn q k
  cases hk : kvs.lookup k with
  | none => rw [h2 hk]; exact .none
  | some v => obtain ⟨u, hu, r⟩ := h1 v hk; rw [hu]; exact r

theorem p_sadd {i : Nat} {ks : List Str} {k : Str} {t : Tok} {Q : Value → Shared → Prop} (hi : i < H.n) (e : H.f i = .set ks) (hl : ks.length < 1000) (I : Inv cx ρ H s)
    (hQ : ∀ s', Stp cx NoW ρ H s ρ (H.put i (.set (addL ks k))) s' → Q .none s') : wpAny cx.M A (call (.builtin "set.add") [.ref (ρ i), .str k t]) Q E s := by
  have hS : SetL cx.prog cx.w s.heap (ρ i) ks := by have := I.objs i hi; rw [e] at this; exact this
  exact c_set_add hS (by simp only [scanBound]; lia) fun h' hs hL => hQ _ (Stp.put _ I hi hs hL rfl I.bare)

theorem strValues_eq (ts : List (Str × Tok)) : strValues ts = ts.map fun p => Value.str p.1 p.2 := by
  unfold strValues; rfl

theorem p_join {i : Nat} {xs : List V} {l : List Str} {x : Str} {t : Tok} {Q : Value → Shared → Prop} (hi : i < H.n) (e : H.f i = .list xs) (hl : strsOf xs = some l) (hok : JoinOk x l = true) (I : Inv cx ρ H s)
    (hQ : ∀ v s', Stp cx NoW ρ H s ρ H s' → Rep H.n ρ s'.heap v (.str (Txt.join x l)) → Q v s') : wpAny cx.M A (call (.builtin "str.join") [.str x t, .ref (ρ i)]) Q E s := by
  obtain ⟨vs, k, ho, q⟩ := I.list hi e
  obtain ⟨ts, h1, h2⟩ := strsOf_rep hl q
  refine SC.join (l := ts) (texts := l) ?_ h1 hok fun t' k => hQ _ _ (Stp.toks _ I) (.str _ _)
  rw [strValues_eq, ← h2]; exact isList_of (by simpa using ho)
end
end Mine
end
section
open PySem PySem.W PyProof.Rows PySem.SeqAt
namespace Mine
section
variable {cx : Cx} {A : Around} {s : Shared} {ρ : Nat → Addr} {H : Hp} {E : Value → Shared → Prop}
theorem check_join (x : Str) (t : Tok) (v : Value) : checkBoundCall "str.join" ⟨[.str x t, v], []⟩ = pure () := by kernel_rfl
noncomputable def appSig : Manifest.Signature := (Manifest.signature? "list.append").get (by decide +kernel)
theorem appSig_eq : Manifest.signature? "list.append" = some appSig := by simp [appSig]
theorem appArgs (l v : Value) : Bind.checkArgs "list.append" { appSig with full := s!"{Bind.lastOf "list"}.{Bind.lastOf "list.append"}" } ⟨[l, v], []⟩ = pure () := by kernel_rfl
theorem sub_list_module : isSubtype (.type "list") (.type "module") = pure false := by rw [isSubtype_type]; kernel_rfl
theorem check_append {l : Addr} {v : Value} {o : Obj} {items : Array Value} {n : Nat} {Q : Unit → Shared → Prop} (ho : s.heap.get? l = some o) (hc : o.cls = .type "list") (hd : o.data = .seq items n) (h : Q () s) :
    wpAny cx.M A (checkBoundCall "list.append" ⟨[.ref l, v], []⟩) Q E s := by
  have hT : s.TypeIs (.ref l) "list" := ⟨o, ho, hc⟩
  unfold checkBoundCall
  rw [appSig_eq, show builtinKind "list.append" = some .method by decide +kernel]
  dsimp only
  rw [if_neg (by decide)]
  refine wpAny_bind (wpAny_isInstance hT sub_list_module ?_)
  rw [if_neg (by decide +kernel)]
  refine wpAny_bind (m := isType (.ref l)) ?_
  unfold isType
  refine wpAny_bind (wpAny_loadPart ho ?_)
  rw [hd]
  refine wpAny_pure ?_
  rw [if_neg (by simp)]
  refine wpAny_bind (wpAny_typeOf hT ?_)
  dsimp only
  exact wpAny_of_eq (appArgs _ _) h

theorem bound_code {a : Addr} {id : String} {w : Value} {vs : List Value} {B : Builtin} {R : Result → Shared → Prop} (ho : s.heap.get? a = some { cls := .type "builtin_function_or_method", data := .fields #[.builtin id, w] })
    (hb : entryFor table id = some B) (hq : plainId id = true)
    (h : wpAny cx.M A.in1 (checkBoundCall id ⟨w :: vs, []⟩) (fun _ s₁ => wpAny cx.M A.in1 (B ⟨w :: vs, []⟩) (fun fin s' => match fin with | .done f => R (.ok f) s' | .again c' => c'.quiet = true ∧ codeAny cx.M A c' R s') (fun e s' => R (.error e) s') s₁) (fun e s' => R (.error e) s') s) :
    codeAny cx.M A (.call (.ref a) ⟨vs, []⟩) R s := by
  refine codeAny_of_tree ?_
  show wpAny _ A.in1 (callAny (.ref a) ⟨vs, []⟩) _ _ s
  show wpAny _ A.in1 (load a >>= _) _ _ _
  refine wpAny_bind (wpAny_load ho (wiT rfl ?_))
  refine wpAny_bind (wpAny_mono h (fun _ s₁ h₁ => wpAny_pure ⟨plainId_quiet hq _, codeAny_builtin hb ?_⟩) fun _ _ e => e)
  rw [Around.under_plainId hq]; exact h₁

theorem bound_append {a : Addr} {i : Nat} {xs : List V} {v : Value} {x : V} {Q : Value → Shared → Prop} (ho : s.heap.get? a = some { cls := .type "builtin_function_or_method", data := .fields #[.builtin "list.append", .ref (ρ i)] })
    (hi : i < H.n) (e : H.f i = .list xs) (hl : xs.length < lim) (I : Inv cx ρ H s) (rv : Rep H.n ρ s.heap v x)
    (hQ : ∀ s', Stp cx NoW ρ H s ρ (H.put i (.list (xs ++ [x]))) s' → Q .none s') : wpAny cx.M A (call (.ref a) [v]) Q E s := by
  obtain ⟨vs, k, hl', q⟩ := I.list hi e
  refine wpAny_call (bound_code ho F.entry_list_append (by decide +kernel) (check_append hl' rfl rfl ?_))
  refine PySem.list_append (ρ i) vs k v (by rw [size_of q, ← lim_eq]; lia) cx.prog cx.w A (wants Q E) s ⟨hl', hQ _ ?_⟩
  exact Stp.setList I hi (Heap.SameBut.update ..) (Heap.get?_update_self _ hl' rfl) (by rw [Array.toList_push]; exact q.snoc rv) rfl I.bare

theorem bound_join {a : Addr} {i : Nat} {xs : List V} {l : List Str} {x : Str} {t : Tok} {Q : Value → Shared → Prop} (ho : s.heap.get? a = some { cls := .type "builtin_function_or_method", data := .fields #[.builtin "str.join", .str x t] })
    (hi : i < H.n) (e : H.f i = .list xs) (hl : strsOf xs = some l) (hok : JoinOk x l = true) (I : Inv cx ρ H s)
    (hQ : ∀ v s', Stp cx NoW ρ H s ρ H s' → Rep H.n ρ s'.heap v (.str (Txt.join x l)) → Q v s') : wpAny cx.M A (call (.ref a) [.ref (ρ i)]) Q E s := by
  obtain ⟨vs, k, hl', q⟩ := I.list hi e
  obtain ⟨ts, h1, h2⟩ := strsOf_rep hl q
  refine wpAny_call (bound_code ho F.entry_str_join (by decide +kernel) (wpAny_of_eq (check_join _ _ _) ?_))
  subst h1
  have hok' := hok
  unfold JoinOk at hok'
  rw [Bool.not_eq_true'] at hok'
  refine meets_str_join_list x t (ρ i) ts hok' cx.prog cx.w A (wants Q E) s ⟨?_, post_join ts ⟨joinFit_length hok', fun t' k => hQ _ _ (Stp.toks _ I) (.str _ _)⟩⟩
  rw [strValues_eq, ← h2]; exact isList_of (by simpa using hl')

theorem method_code {a f : Addr} {w : Value} {vs : List Value} {kvs : List (Str × Value)} {R : Result → Shared → Prop} (ho : s.heap.get? a = some { cls := .type "method", data := .fields #[.ref f, w] })
    (h : codeAny cx.M A (.call (.ref f) ⟨w :: vs, kvs⟩) R s) : codeAny cx.M A (.call (.ref a) ⟨vs, kvs⟩) R s := by
  refine codeAny_of_tree ?_
  show wpAny _ A.in1 (callAny (.ref a) ⟨vs, kvs⟩) _ _ s
  show wpAny _ A.in1 (load a >>= _) _ _ _
  refine wpAny_bind (wpAny_load ho (wiT rfl ?_))
  exact wpAny_pure ⟨rfl, h⟩
end
end Mine
end
section
open PySem PySem.W PyProof.Rows PySem.SeqAt
namespace Mine

theorem intsOf_rep {n ρ h} : ∀ {xs : List V} {l : List Int} {vs : List Value}, intsOf xs = some l → RepL n ρ h vs xs → l.length = vs.length ∧ ∀ (i : Nat) v, vs[i]? = some v → ∃ t, v = .int (l.getD i 0) t := by
  intro xs
  induction xs with
  | nil => intro l vs e r; cases r; exact ⟨congrArg List.length (Option.some.inj e).symm, fun i v h => noS h⟩
  | cons x xs ih =>
    intro l vs e r
    cases r with | cons a b =>
    cases x with
    | int z =>
      obtain ⟨l', e', rfl⟩ := Option.map_eq_some_iff.mp e
      obtain ⟨h1, h2⟩ := ih e' b
      obtain ⟨t, rfl⟩ := a.inv_int
      refine ⟨congrArg (· + 1) h1, fun i v hv => ?_⟩
      cases i with
      | zero => exact ⟨t, (Option.some.inj hv).symm⟩
      | succ i => exact h2 i v hv
    | _ => exact noS e

theorem preSum_list (l : List Int) : ∀ n, preSum (fun i => l.getD i 0) n = (l.take n).sum := by
  intro n
  induction n with
  | zero => rfl
  | succ n ih =>
    rw [preSum, ih, List.take_add_one, List.sum_append]
    congr 1
    cases h : l[n]? with
    | none => simp [List.getD_eq_getElem?_getD, h]
    | some v => simp [List.getD_eq_getElem?_getD, h]

section
variable {cx : Cx} {A : Around} {s : Shared} {ρ : Nat → Addr} {H : Hp} {E : Value → Shared → Prop}

theorem f_len {i : Nat} {xs : List V} {Q : Value → Shared → Prop} (hi : i < H.n) (e : H.f i = .list xs) (hl : xs.length ≤ lim) (I : Inv cx ρ H s)
    (hQ : ∀ v s', Stp cx NoW ρ H s ρ H s' → Rep H.n ρ s'.heap v (.int xs.length) → Q v s') : wpAny cx.M A (call (.builtin "len") [.ref (ρ i)]) Q E s := by
  obtain ⟨vs, k, ho, q⟩ := I.list hi e
  have hz := size_of q
  have e24 : lim = 16777216 := rfl
  refine PySem.Calls.call_len_list (isList_of ho) (by lia) ?_
  rw [hz]; exact hQ _ _ (Stp.toks _ I) (.int _ _)

theorem f_dict {i : Nat} {kvs : List (Str × V)} {Q : Value → Shared → Prop} (hg : HasSys cx) (hi : i < H.n) (e : H.f i = .dict kvs) (hl : kvs.length ≤ lim) (I : Inv cx ρ H s)
    (hQ : ∀ v s' ρ', Stp cx NoW ρ H s ρ' (H.alloc (.dict kvs)) s' → Rep (H.n + 1) ρ' s'.heap v (.ref H.n) → Q v s') : wpAny cx.M A (call (.type "dict") [.ref (ρ i)]) Q E s := by
  obtain ⟨ps, hd, hn, q⟩ := I.dict hi e
  have hz : ps.length = kvs.length := by have := congrArg List.length hn; simpa using this
  refine kt_call_dict (I.notSys hg hi) hd (by rw [hz, ← lim_eq]; exact hl) fun h' hd' hs => ?_
  have hk : ∀ a o, s.heap.get? a = some o → h'.get? a = some o := fun a o e => hs.extBut a o (Nat.ne_of_lt (Heap.lt_size e)) (Heap.get?_push_of_some _ e)
  refine hQ _ _ (fun j => if j = H.n then s.heap.objs.size else ρ j) (Stp.new _ I (get?_size _) I.neS hk ⟨ps, hd', hn, ?_⟩ rfl I.bare) rep_new
  exact q.mono ⟨Nat.le_succ _, fun i hi => if_neg (Nat.ne_of_lt hi), fun a o e _ => hk a o e⟩

theorem f_set {Q : Value → Shared → Prop} (I : Inv cx ρ H s)
    (hQ : ∀ v s' ρ', Stp cx NoW ρ H s ρ' (H.alloc (.set [])) s' → Rep (H.n + 1) ρ' s'.heap v (.ref H.n) → Q v s') : wpAny cx.M A (call (.type "set") []) Q E s := by
  exact c_set_0 (hQ _ _ (fun j => if j = H.n then s.heap.objs.size else ρ j) (Stp.new _ I (get?_size _) I.neS (fun _ _ e => Heap.get?_push_of_some _ e) (SetL.fresh (Heap.get?_push_size _ rfl)) rfl I.bare) rep_new)

theorem f_sum {i : Nat} {xs : List V} {l : List Int} {Q : Value → Shared → Prop} (hh : A.handled = none) (hi : i < H.n) (e : H.f i = .list xs) (hl : intsOf xs = some l) (I : Inv cx ρ H s)
    (hQ : ∀ v s', Stp cx NoW ρ H s ρ H s' → Rep H.n ρ s'.heap v (.int l.sum) → Q v s') : wpAny cx.M A (call (.builtin "sum") [.ref (ρ i)]) Q E s := by
  obtain ⟨vs, k, ho, q⟩ := I.list hi e
  obtain ⟨h1, h2⟩ := intsOf_rep hl q
  have hz : vs.toList.length = vs.size := by simp
  refine call_sum_walkG (wpAny_pyIter_list (isList_of ho) ?_)
  have hlt := Heap.lt_size ho
  refine ⟨s.heap.objs.size, _, _, vs.size, _, _, fun i => l.getD i 0, rfl, Walks.list (A := A.in1) hh s.heap.objs.size (ρ i) (Nat.ne_of_lt hlt) vs, ⟨⟨_, Heap.get?_push_size _ rfl, rfl, rfl⟩, (isList_of ho).push _⟩, ?_, ?_, ?_⟩
  · intro b hb
    simp only [List.mem_cons, List.not_mem_nil, or_false] at hb
    show b < (s.heap.push _).objs.size
    rw [Heap.size_push]
    rcases hb with rfl | rfl
    · exact Nat.lt_succ_self _
    · exact Nat.lt_succ_of_lt hlt
  · intro j v hv
    exact h2 j v (by simpa using hv)
  · intro h' tk t' hk
    rw [preSum_list]
    rw [List.take_of_length_le (Nat.le_of_eq (by rw [h1, hz]))]
    refine hQ _ _ (Stp.grown _ I (fun a o e => ?_) rfl I.bare) (.int _ _)
    exact hk a o (by simp only [List.mem_singleton]; exact Nat.ne_of_lt (Heap.lt_size e)) (Heap.get?_push_of_some _ e)
end
end Mine
end
section
open PySem PySem.W PyProof.Rows PySem.SeqAt
namespace Mine

/-- two things are sorted by one question -/
theorem sort2 : kas_sort 2 = .ask 1 0 fun b => .ret (bif b then #[1, 0] else #[0, 1]) := congrArg (KasT.ask 1 0) (funext fun b => by cases b <;> rfl)
theorem ltS_not {a b : Str} (h : a ≠ b) : ltS b a = !ltS a b := by
  unfold ltS
  rcases Decidable.em (a.cps.toList < b.cps.toList) with h1 | h1
  · rw [decide_eq_true h1, decide_eq_false (List.lt_asymm h1)]; rfl
  · rw [decide_eq_false h1]
    refine decide_eq_true (Decidable.byContradiction fun h2 => h ?_)
    have e := List.le_antisymm (List.not_lt.mp h2) (List.not_lt.mp h1)
    cases a; cases b; exact congrArg Str.mk (Array.toList_inj.mp e)
theorem ltK_not {a : List Str} : ∀ {b : List Str}, a ≠ b → ltK b a = !ltK a b := by
  induction a with
  | nil => intro b h; cases b with
    | nil => exact absurd rfl h
    | cons => rfl
  | cons x p ih => intro b h; cases b with
    | nil => rfl
    | cons y q =>
      show (if y = x then ltK q p else ltS y x) = !(if x = y then ltK p q else ltS x y)
      by_cases e : x = y
      · rw [if_pos e, if_pos e.symm]; exact ih fun e' => h (by rw [e, e'])
      · rw [if_neg e, if_neg (Ne.symm e)]; exact ltS_not e
section
variable {α : Type} {key : α → List Str}
theorem sort_eq {x y : α} (hn : key x ≠ key y) : (bif ltK (key y) (key x) then [y, x] else [x, y]) = sortK key [x, y] := by
  show _ = if ltK (key x) (key y) then [x, y] else [y, x]
  rw [ltK_not hn]
  cases ltK (key x) (key y) <;> rfl
theorem sort_swap {x y : α} (hn : key x ≠ key y) : sortK key [x, y] = sortK key [y, x] := by
  rw [← sort_eq hn, ← sort_eq (Ne.symm hn), ltK_not hn]
  cases ltK (key x) (key y) <;> rfl
end
theorem len2 {α : Type} {l : List α} (h : ¬ l.length < 2) (h' : l.length < 3) : ∃ x y, l = [x, y] := by
  cases l with
  | nil => exact absurd Nat.zero_lt_two h
  | cons x l => cases l with
    | nil => exact absurd Nat.one_lt_two h
    | cons y l => cases l with
      | nil => exact ⟨x, y, rfl⟩
      | cons z l => exact absurd h' (Nat.not_lt.mpr (Nat.le_add_left 3 l.length))
end Mine
end
section
open PySem PySem.W PyProof.Rows PySem.SeqAt
namespace Mine
section
variable {cx : Cx} {A : Around} {s : Shared} {E : Value → Shared → Prop}

abbrev sortHeap (h : Heap) (a : Addr) (vs : List Value) : Heap := ((h.update a (Obj.mapSeq fun _ => (#[] : Array Value))).push (seqObj "tuple" vs.toArray 0)).push (seqObj "list" #[] 0)

theorem sort_body {a : Addr} {v w : Value} {n : Nat} {κ : SortKind} {lt : Bool} {P : PySem.Fin → Shared → Prop} (ho : s.heap.get? a = some (seqObj "list" [v, w].toArray n))
    (hk : ∀ Q : SortKind → Shared → Prop, Q κ { s with heap := sortHeap s.heap a [v, w] } → wpAny cx.M A (keyKind' [v, w].toArray) Q E { s with heap := sortHeap s.heap a [v, w] })
    (hc : ∀ C : Bool → Shared → Prop, C lt { s with heap := sortHeap s.heap a [v, w] } → kas_ask cx.prog cx.w A κ [v, w] 1 0 C { s with heap := sortHeap s.heap a [v, w] })
    (h : P (.done (.ret .none)) { s with heap := (sortHeap s.heap a [v, w]).update a (Obj.mapSeq fun _ => (bif lt then [w, v] else [v, w]).toArray) }) :
    wpAny cx.M A (Builtin.«list.sort» ⟨[.ref a], []⟩) P E s := by
  have ha : a < s.heap.objs.size := Heap.lt_size ho
  obtain ⟨e1, ho1⟩ : ∃ e1, (s.heap.update a (Obj.mapSeq fun _ => (#[] : Array Value))).get? a = some (seqObj "list" #[] e1) := ⟨_, get?_update_seq ho fun _ => #[]⟩
  have ho3 : (sortHeap s.heap a [v, w]).get? a = some (seqObj "list" #[] e1) := Heap.get?_push_of_some _ (Heap.get?_push_of_some _ ho1)
  have ask : (kas_sort 2).kasWp (kas_ask cx.prog cx.w A κ [v, w]) (fun p s' => p = (bif lt then #[1, 0] else #[0, 1]) ∧ s' = { s with heap := sortHeap s.heap a [v, w] }) { s with heap := sortHeap s.heap a [v, w] } := by
    rw [sort2]; exact hc _ ⟨rfl, rfl⟩
  rw [kas_ask_eq] at ask
  rw [list_sort_plain]
  refine wpAny_bind (listItems_at ho rfl ?_)
  refine wpAny_bind (listUpdate_at ho rfl ?_ (by rw [sizeLine_eq]; exact Nat.le_of_ble_eq_true rfl) (Nat.zero_le _))
  refine wpAny_bind (seqEpoch_at ho1 rfl ?_)
  refine wpAny_bind (wpAny_newTuple ?_ (by rw [sizeLine_eq]; exact Nat.le_of_ble_eq_true rfl))
  refine wpAny_bind (wpAny_newList ?_ (Nat.zero_le _))
  refine wpAny_holding ?_
  show wpAny cx.M A _ P E { s with heap := sortHeap s.heap a [v, w] }
  dsimp only
  have hn2 : ¬ [v, w].toArray.size < 2 := Nat.lt_irrefl 2
  rw [if_neg hn2, if_neg hn2]
  refine wpAny_bind (hk _ ?_)
  have est : SortSt.mk' κ ([v, w].toArray.zip [v, w].toArray) #[] 7 none = kas_st κ (pairsOf [v, w]) (List.toArray (List.range 2)) := by
    have e := kas_range (pairsOf [v, w])
    rw [pairsOf_size] at e
    show SortSt.mk' κ (pairsOf [v, w]) #[] 7 none = SortSt.mk' κ ((List.toArray (List.range [v, w].length)).map (kas_item (pairsOf [v, w]))) #[] 7 none
    rw [e]
  have run := kas_runs (E := E) (Q := fun _ st' s' => ∃ p : Array Nat, p.size = 2 ∧ arrOf st' = p.map (kas_item (pairsOf [v, w])) ∧ failedOf st' = none ∧ (p = (bif lt then #[1, 0] else #[0, 1]) ∧ s' = { s with heap := sortHeap s.heap a [v, w] }))
    (Nat.le_refl 2) (Nat.le_of_ble_eq_true rfl) (fun p' st' s' a1 a2 a3 a4 => ⟨p', a1, a2, a3, a4⟩) ask
  rw [← est] at run
  refine wpAny_bind (wpAny_mono run ?_ fun _ _ e => e)
  rintro ⟨⟨⟩, st'⟩ s' ⟨p, hp, har, hf, rfl, rfl⟩
  dsimp only
  have hout : (arrOf st').map (·.2) = List.toArray (bif lt then [w, v] else [v, w]) := by
    apply Array.toList_inj.mp
    rw [har, Array.map_map, Array.toList_map, show ((fun x : Keyed => x.2) ∘ kas_item (pairsOf [v, w])) = fun i => [v, w].getD i .none from funext fun i => congrArg Prod.snd (kas_item_eq [v, w] i)]
    cases lt <;> rfl
  have hsz : (List.toArray (bif lt then [w, v] else [v, w])).size ≤ sizeLine + 1 := by rw [sizeLine_eq]; cases lt <;> exact Nat.le_of_ble_eq_true rfl
  rw [hout]
  refine wpAny_bind (seqEpoch_at ho3 rfl ?_)
  refine wpAny_bind (listUpdate_at ho3 rfl ?_ (Nat.zero_le _) hsz)
  rw [hf]
  simp only [bne_self_eq_false, Bool.false_eq_true, if_false]
  exact wpAny_pure h
end
end Mine
end
section
open PySem PySem.W PyProof.Rows PySem.SeqAt
namespace Mine
section
variable {cx : Cx} {A : Around} {s : Shared} {E : Value → Shared → Prop} {ρ : Nat → Addr} {H : Hp}

theorem sort_small {a : Addr} {vs : List Value} {n : Nat} {P : PySem.Fin → Shared → Prop} (ho : s.heap.get? a = some (seqObj "list" vs.toArray n)) (h2 : vs.length < 2)
    (h : P (.done (.ret .none)) { s with heap := (sortHeap s.heap a vs).update a (Obj.mapSeq fun _ => vs.toArray) }) :
    wpAny cx.M A (Builtin.«list.sort» ⟨[.ref a], []⟩) P E s := by
  have ha : a < s.heap.objs.size := Heap.lt_size ho
  obtain ⟨e1, ho1⟩ : ∃ e1, (s.heap.update a (Obj.mapSeq fun _ => (#[] : Array Value))).get? a = some (seqObj "list" #[] e1) := ⟨_, get?_update_seq ho fun _ => #[]⟩
  have ho3 : (sortHeap s.heap a vs).get? a = some (seqObj "list" #[] e1) := Heap.get?_push_of_some _ (Heap.get?_push_of_some _ ho1)
  rw [list_sort_plain]
  refine wpAny_bind (listItems_at ho rfl ?_)
  refine wpAny_bind (listUpdate_at ho rfl ?_ (by rw [List.size_toArray, sizeLine_eq]; lia) (Nat.zero_le _))
  refine wpAny_bind (seqEpoch_at ho1 rfl ?_)
  refine wpAny_bind (wpAny_newTuple ?_ (by show vs.length ≤ _; rw [sizeLine_eq]; lia))
  refine wpAny_bind (wpAny_newList ?_ (Nat.zero_le _))
  refine wpAny_holding ?_
  show wpAny cx.M A _ P E { s with heap := sortHeap s.heap a vs }
  dsimp only
  have hn2 : vs.toArray.size < 2 := by rw [List.size_toArray]; lia
  rw [if_pos hn2, if_pos hn2]
  refine wpAny_bind (wpAny_pure ?_)
  refine wpAny_bind (wpAny_pure ?_)
  dsimp only
  have hout : (arrOf (SortSt.mk' general' (vs.toArray.zip vs.toArray) #[] 7 none)).map (·.2) = vs.toArray := by
    show (vs.toArray.zip vs.toArray).map (·.2) = vs.toArray
    apply Array.toList_inj.mp
    simp [List.map_snd_zip]
  rw [hout]
  refine wpAny_bind (seqEpoch_at ho3 rfl ?_)
  refine wpAny_bind (listUpdate_at ho3 rfl ?_ (Nat.zero_le _) (by rw [List.size_toArray, sizeLine_eq]; lia))
  simp only [bne_self_eq_false, Bool.false_eq_true, if_false]
  exact wpAny_pure h

theorem looks_str {M : Model} {h : Heap} {x : Str} {t : Tok} : Looks M h (typeOf (.str x t)) (.type "str") := .now

/-- an item is a pair of strs -/
noncomputable def IsP (h : Heap) (x : V) (v : Value) : Prop := ∃ a k y z t u, x = .tup [.str y, .str z] ∧ v = .ref a ∧ h.get? a = some { cls := .type "tuple", data := .seq #[.str y t, .str z u] k }
theorem isS_of {x : V} (e : isS x = true) : ∃ a, x = .str a := by
  cases x with
  | str a => exact ⟨a, rfl⟩
  | _ => exact noB e
theorem isPair_of {x : V} (e : isPairV x = true) : ∃ a b, x = .tup [.str a, .str b] := by
  cases x with
  | tup xs =>
    cases xs with
    | nil => exact noB e
    | cons x l => cases l with
      | nil => exact noB e
      | cons y l => cases l with
        | nil =>
          have e : (isS x && isS y) = true := e
          obtain ⟨e1, e2⟩ := Bool.and_eq_true_iff.mp e
          obtain ⟨a, rfl⟩ := isS_of e1
          obtain ⟨b, rfl⟩ := isS_of e2
          exact ⟨a, b, rfl⟩
        | cons => exact noB e
  | _ => exact noB e
theorem isP_of {n h} (x : V) (v : Value) (e : isPairV x = true) (r : Rep n ρ h v x) : IsP h x v := by
  obtain ⟨y, z, rfl⟩ := isPair_of e
  obtain ⟨ad, vs, k, rfl, e, r⟩ := r.inv_tup
  obtain ⟨l⟩ := vs
  have r : RepL n ρ h l [.str y, .str z] := r
  cases r with | cons r1 r =>
  cases r with | cons r2 r =>
  cases r
  obtain ⟨t, rfl⟩ := r1.inv_str
  obtain ⟨u, rfl⟩ := r2.inv_str
  exact ⟨ad, k, y, z, t, u, rfl, rfl, e⟩

theorem s_ltStr {x y : Str} {t u : Tok} {b : Bool} {Q : Bool → Shared → Prop} (h : Q (ltS x y) s) : wpAny cx.M A (oneLt' b (.str x t) (.str y u)) Q E s := by
  cases b with
  | true => exact oneLt_str h
  | false => exact kat_one _ _ (PyProof.Rows.lt_str (show PySem.W.BoolBack Q _ s from h))

theorem sortHeap_get {h : Heap} {a b : Addr} {vs : List Value} {o : Obj} (e : h.get? b = some o) (hb : b ≠ a) : (sortHeap h a vs).get? b = some o :=
  Heap.get?_push_of_some _ (Heap.get?_push_of_some _ ((Heap.get?_update_other _ _ (Ne.symm hb)).trans e))

theorem s_sort {a : Addr} {vs : List Value} {n : Nat} {xs ys : List V} {P : PySem.Fin → Shared → Prop} (ho : s.heap.get? a = some (seqObj "list" vs.toArray n)) (r : RepL H.n ρ s.heap vs xs)
    (hs : SortV xs ys)
    (h : ∀ h' ws k, Heap.ExtBut a s.heap h' → h'.get? a = some (seqObj "list" ws k) → (∀ n ρ h, RepL n ρ h vs xs → RepL n ρ h ws.toList ys) → P (.done (.ret .none)) { s with heap := h' }) :
    wpAny cx.M A (Builtin.«list.sort» ⟨[.ref a], []⟩) P E s := by
  have hna : ∀ b o, s.heap.get? b = some o → o.cls = .type "tuple" → b ≠ a := fun b o e hc q => by
    subst q; rw [ho] at e; cases e; simp [seqObj] at hc
  obtain ⟨hpr, h64, hnd, rfl⟩ := hs
  have hl := r.length
  have hx0 : Heap.ExtBut a s.heap (sortHeap s.heap a vs) := fun b o hb e => sortHeap_get e hb
  obtain ⟨e1, ho1⟩ : ∃ e1, (s.heap.update a (Obj.mapSeq fun _ => (#[] : Array Value))).get? a = some (seqObj "list" #[] e1) := ⟨_, get?_update_seq ho fun _ => #[]⟩
  have ho3 : (sortHeap s.heap a vs).get? a = some (seqObj "list" #[] e1) := Heap.get?_push_of_some _ (Heap.get?_push_of_some _ ho1)
  have fin : ∀ ws : Array Value, (∀ n ρ h, RepL n ρ h vs xs → RepL n ρ h ws.toList (sortK pairKey xs)) → P (.done (.ret .none)) { s with heap := (sortHeap s.heap a vs).update a (Obj.mapSeq fun _ => ws) } := fun ws hw => by
    obtain ⟨k, e⟩ : ∃ k, ((sortHeap s.heap a vs).update a (Obj.mapSeq fun _ => ws)).get? a = some (seqObj "list" ws k) := ⟨_, get?_update_seq ho3 fun _ => ws⟩
    exact h _ ws k (fun b o hb e => (Heap.get?_update_other _ _ (Ne.symm hb)).trans (hx0 b o hb e)) e hw
  by_cases h2 : xs.length < 2
  · refine sort_small ho (hl ▸ h2) (fin _ fun n ρ h r => ?_)
    have e : sortK pairKey xs = xs := by
      cases xs with
      | nil => rfl
      | cons x l => cases l with
        | nil => rfl
        | cons y l => exact absurd h2 (Nat.not_lt.mpr (Nat.le_add_left 2 l.length))
    rw [e]; exact r
  · obtain ⟨y, z, rfl⟩ := len2 h2 h64
    cases r with | cons r1 r =>
    cases r with | cons r2 r =>
    cases r
    rw [List.all_cons, List.all_cons, Bool.and_eq_true_iff, Bool.and_eq_true_iff] at hpr
    obtain ⟨p, k, x, y, t, u, rfl, rfl, e3⟩ := isP_of _ _ hpr.1 r1
    obtain ⟨p', k', x', y', t', u', rfl, rfl, f3⟩ := isP_of _ _ hpr.2.1 r2
    have e3' := sortHeap_get (vs := [.ref p, .ref p']) e3 (hna _ _ e3 rfl)
    have f3' := sortHeap_get (vs := [.ref p, .ref p']) f3 (hna _ _ f3 rfl)
    have hk : pairKey (.tup [.str x, .str y]) ≠ pairKey (.tup [.str x', .str y']) := fun q => (List.nodup_cons.mp hnd).1 (by rw [q]; exact List.mem_singleton.mpr rfl)
    refine sort_body (κ := tuples' true) (lt := ltK [x', y'] [x, y]) ho (fun Q hq => ?_) (fun C hq => ?_) (fin _ fun n ρ h r => ?_)
    · exact kat_kind (T := .type "str") (.cons e3' rfl rfl rfl (.cons f3' rfl rfl rfl .nil)) Nat.two_pos (fun v hv => by
        rcases List.mem_cons.mp hv with rfl | hv
        · exact looks_str
        · rw [List.mem_singleton.mp hv]; exact looks_str) (by decide) hq
    · show wpAny _ _ (keyLt' (tuples' true) (.ref p') (.ref p)) _ _ _
      refine kat_lt f3' rfl e3' rfl ?_
      show KatLex _ _ _ _ _ _ [(.str x' t', .str x t), (.str y' u', .str y u)] 0 _
      have hq' : C (if x' = x then (if y' = y then false else ltS y' y) else ltS x' x) { s with heap := sortHeap s.heap a [.ref p, .ref p'] } := hq
      refine kat_cons (PyProof.Rows.eqBool_str (kat_go (fun e => kat_yes (kat_cons (PyProof.Rows.eqBool_str (kat_go (fun e' => kat_yes (kat_nil ?_)) fun e' => kat_no (s_ltStr ?_))))) fun e => kat_no (s_ltStr ?_)))
      · rw [if_pos (beq_iff_eq.mp e), if_pos (beq_iff_eq.mp e')] at hq'; exact hq'
      · rw [if_pos (beq_iff_eq.mp e), if_neg (ne_of_beq_false e')] at hq'; exact hq'
      · rw [if_neg (ne_of_beq_false e)] at hq'; exact hq'
    · rw [← sort_eq hk]
      cases r with | cons r1 r =>
      cases r with | cons r2 r =>
      show RepL _ _ _ (bif ltK [x', y'] [x, y] then _ else _) (bif ltK [x', y'] [x, y] then _ else _)
      cases ltK [x', y'] [x, y]
      · exact .cons r1 (.cons r2 .nil)
      · exact .cons r2 (.cons r1 .nil)
end
end Mine
end
section
open PySem PySem.W PyProof.Rows PySem.SeqAt
namespace Mine
section
variable {cx : Cx} {A : Around} {s s' : Shared} {E : Value → Shared → Prop} {ρ : Nat → Addr} {H : Hp}

/-- one mutable object is stored anew at its place, and the heap may have grown -/
theorem Stp.putX (W) (I : Inv cx ρ H s) {i : Nat} {o : AObj} (hi : i < H.n) (hs : Heap.ExtBut (ρ i) s.heap s'.heap)
    (ho : RepO cx.prog cx.w H.n ρ s'.heap (ρ i) o) (hos : s'.os = s.os) (hb : AllBare s'.gens) : Stp cx W ρ H s ρ (H.put i o) s' := by
  have K : Kp H.n ρ s.heap H.n ρ s'.heap := ⟨Nat.le_refl _, fun _ _ => rfl, fun a o e hc => hs a o (fun q => I.notMut e hc i hi q.symm) e⟩
  refine ⟨⟨fun b o e => hs b o (fun q => ?_) (I.keep b o e), hos.trans I.os, hb, fun j hj => ?_, I.inj, I.low, I.st, I.nsys⟩, Nat.le_refl _, fun _ _ => rfl, fun i h1 h2 => absurd h2 (Nat.not_lt.mpr h1), fun a o e hm _ => hs a o (fun q => hm i hi q.symm) e⟩
  · subst q
    rw [I.low i hi] at e; cases e
  · show RepO _ _ H.n ρ _ (ρ j) (if j = i then o else H.f j)
    by_cases h : j = i
    · subst h; rw [if_pos rfl]; exact ho
    · rw [if_neg h]
      obtain ⟨ob, e, _⟩ := (I.objs j hj).some
      exact (I.objs j hj).mono K ((hs _ _ (fun q => h (I.inj j i hj hi q)) e).trans e.symm)
theorem Kp.extBut (I : Inv cx ρ H s) {i : Nat} (hi : i < H.n) (hs : Heap.ExtBut (ρ i) s.heap s'.heap) : Kp H.n ρ s.heap H.n ρ s'.heap :=
  ⟨Nat.le_refl _, fun _ _ => rfl, fun a o e hc => hs a o (fun q => I.notMut e hc i hi q.symm) e⟩

theorem p_sort {i : Nat} {xs ys : List V} {Q : Value → Shared → Prop} (hi : i < H.n) (e : H.f i = .list xs) (hl : SortV xs ys) (I : Inv cx ρ H s)
    (hQ : ∀ s', Stp cx NoW ρ H s ρ (H.put i (.list ys)) s' → Q .none s') : wpAny cx.M A (call (.builtin "list.sort") [.ref (ρ i)]) Q E s := by
  obtain ⟨vs, k, ho, q⟩ := I.list hi e
  refine wpAny_call_entry slot_list_sort ⟨_, ho, rfl⟩ entry_list_sort ?_ (args_list_sort _)
  refine s_sort (vs := vs.toList) (n := k) (xs := xs) (by simpa using ho) q hl fun h' ws k' hx ho' hr => ⟨_, rfl, hQ _ (Stp.putX _ I hi hx ⟨ws, k', ho', ?_⟩ rfl I.bare)⟩
  exact hr _ _ _ (q.mono (Kp.extBut I hi hx))

theorem pairs_rep {n : Nat} {ρ : Nat → Addr} {h : Heap} {prog : Program} {w : World} {lo : Addr} : ∀ {ps : List (Str × Value)} {kvs : List (Str × V)} {as : List Addr}, ps.map (·.1) = kvs.map (·.1) → RepL n ρ h (ps.map (·.2)) (kvs.map (·.2)) →
    as.length = ps.length → (∀ (j : Nat) (a : Addr), as[j]? = some a → ∃ key k x, ps[j]? = some (k, x) ∧ (PySem.strKind prog w).is k key = true ∧ h.get? a = some { cls := .type "tuple", data := .seq #[key, x] }) →
    RepL n ρ h (as.map Value.ref) (kvs.map fun p => .tup [.str p.1, p.2])
  | [], [], [], _, _, _, _ => .nil
  | (k, u) :: ps, (k', v) :: kvs, a :: as, hn, r, hl, g => by
    simp only [List.map_cons, List.cons.injEq] at hn
    obtain ⟨rfl, hn⟩ := hn
    cases r with | cons r1 r =>
    obtain ⟨key, k2, x, e1, e2, e3⟩ := g 0 a rfl
    simp only [List.getElem?_cons_zero, Option.some.injEq, Prod.mk.injEq] at e1
    obtain ⟨rfl, rfl⟩ := e1
    obtain ⟨t, rfl⟩ := str_of_is e2
    refine .cons (.tup e3 (.cons (.str _ _) (.cons r1 .nil))) (pairs_rep (prog := prog) (w := w) (lo := lo) hn r (by simpa using hl) fun j b hj => ?_)
    obtain ⟨key, k3, x, e1, e2, e3⟩ := g (j + 1) b (by simpa using hj)
    exact ⟨key, k3, x, by simpa using e1, e2, e3⟩
  | [], _ :: _, _, hn, _, _, _ => by simp at hn
  | _ :: _, [], _, hn, _, _, _ => by simp at hn
  | [], [], _ :: _, _, _, hl, _ => by simp at hl
  | _ :: _, _ :: _, [], _, _, hl, _ => by simp at hl

theorem f_sorted {i : Nat} {kvs : List (Str × V)} {ys : List V} {v : Value} {Q : Value → Shared → Prop} (hh : A.handled = none) (e : H.f i = .dict kvs) (hl : SortV (kvs.map fun p => .tup [.str p.1, p.2]) ys) (I : Inv cx ρ H s) (rv : Rep H.n ρ s.heap v (.view i))
    (hQ : ∀ v s' ρ', Stp cx NoW ρ H s ρ' (H.alloc (.list ys)) s' → Rep (H.n + 1) ρ' s'.heap v (.ref H.n) → Q v s') : wpAny cx.M A (call (.builtin "sorted") [v]) Q E s := by
  obtain ⟨hi, r, rfl, hr⟩ := rv.inv_view
  obtain ⟨ps, hd, hn, q⟩ := I.dict hi e
  obtain ⟨od, des, dep, hod, hex, hdd, hK, hP, hnd⟩ := id hd
  have hz : ps.length = kvs.length := by have := congrArg List.length hn; simpa using this
  have h64 : kvs.length < 64 := List.length_map (as := kvs) _ ▸ (Nat.lt_trans hl.few (by decide : 3 < 64))
  refine Calls.call_function_entry kind_sorted plain_sorted entry_sorted (args_sorted1 _) ?_
  unfold Builtin.«sorted»
  refine wpAny_bind (m := checkCount "sorted" 1 1 _) (wpAny_pure ?_)
  refine wpAny_bind (kdx_collect (knd := PySem.strKind cx.prog cx.w) (d := ρ i) (kvs := ps) (ep := dep) hh ⟨_, hr, rfl, rfl⟩ ⟨od, des, hod, hex, hdd, hK, hP, hnd⟩ (by rw [sizeLine_eq]; lia) fun h' tk as hk hlen hG => ?_)
  have hx1 : ∀ b o, s.heap.get? b = some o → (h'.push { cls := .type "list", data := .seq (as.map Value.ref).toArray }).get? b = some o := fun b o e => Heap.get?_push_of_some _ (hk b o e)
  refine wpAny_bind (wpAny_newList ?_ (by rw [List.length_map, hlen, sizeLine_eq]; lia))
  have rl : ∀ h'', (∀ b o, h'.get? b = some o → h''.get? b = some o) → RepL H.n ρ h'' (as.map Value.ref) (kvs.map fun p => .tup [.str p.1, p.2]) := fun h'' hk'' =>
    pairs_rep (prog := cx.prog) (w := cx.w) (lo := 0) hn (q.mono ⟨Nat.le_refl _, fun _ _ => rfl, fun a o e _ => hk'' _ _ (hk _ _ e)⟩) hlen fun j a hj => by
      obtain ⟨key, k, x, e1, e2, e3⟩ := hG.pairs j a hj
      exact ⟨key, k, x, e1, e2, hk'' _ _ e3⟩
  refine wpAny_bind (wpAny_holding (wpAny_call_entry slot_list_sort ⟨_, Heap.get?_push_size _ rfl, rfl⟩ entry_list_sort ?_ (args_list_sort _)))
  refine s_sort (H := H) (ρ := ρ) (xs := kvs.map fun p => .tup [.str p.1, p.2]) (Heap.get?_push_size _ rfl) (rl _ fun b o e => Heap.get?_push_of_some _ e) hl fun h2 ws k2 hx ho2 hr2 => ⟨_, rfl, wpAny_pure ⟨_, rfl, ?_⟩⟩
  have fr : ∀ b o, s.heap.get? b = some o → b ≠ h'.objs.size := fun b o e => Nat.ne_of_lt (Heap.lt_size (hk b o e))
  have hfr : s.heap.get? h'.objs.size = none := by
    cases e : s.heap.get? h'.objs.size with
    | none => rfl
    | some o => exact absurd rfl (fr _ _ e)
  have hk2 : ∀ b o, s.heap.get? b = some o → h2.get? b = some o := fun b o e => hx b o (fr b o e) (hx1 b o e)
  refine hQ _ _ (fun j => if j = H.n then h'.objs.size else ρ j) (Stp.new _ I hfr (I.neX hk) hk2 ⟨ws, k2, ho2, ?_⟩ rfl I.bare) rep_new
  have rr : RepL H.n ρ h2 (as.map Value.ref) (kvs.map fun p => .tup [.str p.1, p.2]) := pairs_rep (prog := cx.prog) (w := cx.w) (lo := 0) hn (q.mono ⟨Nat.le_refl _, fun _ _ => rfl, fun a o e _ => hk2 _ _ e⟩) hlen fun j a hj => by
      obtain ⟨key, k, x, e1, e2, e3⟩ := hG.pairs j a hj
      exact ⟨key, k, x, e1, e2, hx _ _ (Nat.ne_of_lt (Heap.lt_size e3)) (Heap.get?_push_of_some _ e3)⟩
  exact (hr2 _ _ _ rr).mono ⟨Nat.le_succ _, fun j hj => if_neg (Nat.ne_of_lt hj), fun _ _ e _ => e⟩

theorem strs_rep {n : Nat} {ρ : Nat → Addr} {h : Heap} : ∀ {l : List (Str × Tok)} {xs : List Str}, l.map (·.1) = xs → RepL n ρ h (strValues l) (xs.map .str)
  | [], [], _ => .nil
  | (x, t) :: l, y :: xs, e => by
    simp only [List.map_cons, List.cons.injEq] at e
    obtain ⟨rfl, e⟩ := e
    exact .cons (.str _ _) (strs_rep e)
  | [], _ :: _, e => by simp at e
  | _ :: _, [], e => by simp at e

open Builtin Builtin.Str in
theorem h_split {x y : Str} {k : Int} {t u v : Tok} {Q : Value → Shared → Prop} (hy : y.length ≠ 0) (hx : x.length + 2 ≤ lim) (hk : 0 ≤ k ∧ k < 1000)
    (hQ : ∀ (l : List (Str × Tok)) tk, l.map (·.1) = Txt.splitMax x y k → Q (.ref s.heap.objs.size) { s with heap := s.heap.push { cls := .type "list", data := .seq (strValues l).toArray }, toks := tk }) :
    wpAny cx.M A (call (.builtin "str.split") [.str x t, .str y u, .int k v]) Q E s := by
  have hy' : (y.length == 0) = false := by simpa using hy
  have hk' : (decide (k < -(2 ^ 63 : Int)) || decide (k ≥ 2 ^ 63)) = false := by simp; lia
  have hz : x.length + 2 ≤ sizeLine := by rw [← lim_eq]; exact hx
  have hn : (partsBetween x (occurrences x y 0 x.length (limitOf x k)) y.length).length ≤ sizeLine := by
    have e1 := StrLaws.occ_length_le_len x y 0 x.length (limitOf x k)
    rw [length_partsBetween]; lia
  cases h1 : (decide (x.length < y.length) || decide (Builtin.Str.strKind x < Builtin.Str.strKind y))
  · cases hf : (occurrences x y 0 x.length (limitOf x k)).isEmpty
    · refine call_meets F.slot_str_split (typeIs_str _ _ _) F.entry_str_split (F.args_str_split_3 _ _ _) (meets_str_split_sep_max x y k t u v hk' h1 hy' hf (by lia) hn) ?_
      show wants Q E _ { s with toks := _, heap := s.heap.push { cls := .type "list", data := .seq (strsFrom s.toks (partsBetween x (occurrences x y 0 x.length (limitOf x k)) y.length)).toArray } }
      rw [strsFrom_eq]
      exact hQ (numbered s.toks _) _ ((numbered_texts _ _).trans ((if_neg (ne_true_of_eq_false h1)).trans (if_neg (ne_true_of_eq_false hf))).symm)
    · exact call_meets F.slot_str_split (typeIs_str _ _ _) F.entry_str_split (F.args_str_split_3 _ _ _) (meets_str_split_max_not_found x y k t u v hk' h1 hy' hf)
        (hQ [(x, t)] s.toks ((if_neg (ne_true_of_eq_false h1)).trans (if_pos hf)).symm)
  · exact call_meets F.slot_str_split (typeIs_str _ _ _) F.entry_str_split (F.args_str_split_3 _ _ _) (meets_str_split_max_cannot_occur x y k t u v hk' h1)
      (hQ [(x, t)] s.toks (if_pos h1).symm)

open Builtin Builtin.Str in
theorem h_rsplit {x y : Str} {k : Int} {t u v : Tok} {Q : Value → Shared → Prop} (hy : y.length ≠ 0) (hx : x.length + 2 ≤ lim) (hk : 0 ≤ k ∧ k < 1000)
    (hQ : ∀ (l : List (Str × Tok)) tk, l.map (·.1) = Txt.rsplitMax x y k → Q (.ref s.heap.objs.size) { s with heap := s.heap.push { cls := .type "list", data := .seq (strValues l).toArray }, toks := tk }) :
    wpAny cx.M A (call (.builtin "str.rsplit") [.str x t, .str y u, .int k v]) Q E s := by
  have hy' : (y.length == 0) = false := by simpa using hy
  have hk' : (decide (k < -(2 ^ 63 : Int)) || decide (k ≥ 2 ^ 63)) = false := by simp; lia
  have hz : x.length + 2 ≤ sizeLine := by rw [← lim_eq]; exact hx
  have hn : (partsBetween x (occurrencesFromRight x y (limitOf x k)) y.length).length ≤ sizeLine := by
    have e1 := StrLaws.occR_length_le_len x y (limitOf x k)
    rw [length_partsBetween]; lia
  cases h1 : (decide (x.length < y.length) || decide (Builtin.Str.strKind x < Builtin.Str.strKind y))
  · cases hf : (occurrencesFromRight x y (limitOf x k)).isEmpty
    · refine call_meets F.slot_str_rsplit (typeIs_str _ _ _) F.entry_str_rsplit (F.args_str_rsplit_3 _ _ _) (meets_str_rsplit_sep_max x y k t u v hk' h1 hy' hf (by lia) hn) ?_
      show wants Q E _ { s with toks := _, heap := s.heap.push { cls := .type "list", data := .seq (strsFrom s.toks (partsBetween x (occurrencesFromRight x y (limitOf x k)) y.length)).toArray } }
      rw [strsFrom_eq]
      exact hQ (numbered s.toks _) _ ((numbered_texts _ _).trans ((if_neg (ne_true_of_eq_false h1)).trans (if_neg (ne_true_of_eq_false hf))).symm)
    · exact call_meets F.slot_str_rsplit (typeIs_str _ _ _) F.entry_str_rsplit (F.args_str_rsplit_3 _ _ _) (meets_str_rsplit_max_not_found x y k t u v hk' h1 hy' hf)
        (hQ [(x, t)] s.toks ((if_neg (ne_true_of_eq_false h1)).trans (if_pos hf)).symm)
  · exact call_meets F.slot_str_rsplit (typeIs_str _ _ _) F.entry_str_rsplit (F.args_str_rsplit_3 _ _ _) (meets_str_rsplit_max_cannot_occur x y k t u v hk' h1)
      (hQ [(x, t)] s.toks (if_pos h1).symm)

theorem new_strs {l : List (Str × Tok)} {xs : List Str} {tk : Nat} {Q : Value → Shared → Prop} (I : Inv cx ρ H s) (e : l.map (·.1) = xs)
    (hQ : ∀ v s' ρ', Stp cx NoW ρ H s ρ' (H.alloc (.list (xs.map .str))) s' → Rep (H.n + 1) ρ' s'.heap v (.ref H.n) → Q v s') : Q (.ref s.heap.objs.size) { s with heap := s.heap.push { cls := .type "list", data := .seq (strValues l).toArray }, toks := tk } :=
  hQ _ _ (fun j => if j = H.n then s.heap.objs.size else ρ j) (Stp.new _ I (get?_size _) I.neS (fun _ _ e => Heap.get?_push_of_some _ e) ⟨_, _, Heap.get?_push_size _ rfl, strs_rep e⟩ rfl I.bare) rep_new
end
end Mine
end
section
open PySem PySem.W PyProof.Rows PySem.SeqAt
namespace Mine
section
variable {pe : Pe} {cx : Cx} {n : Nat} {sc : Sc} {loc : Loc} {H H' : Hp} {x : V}

theorem Looks.kpr {fv : Value} {s : Shared} {k : Keeper} (h : Looks cx.M s.heap (keeperOf fv) k) : Kpr cx fv s := fun {A Q E} hQ => h.here (hQ k)

theorem kin_at (P : PeOk pe cx) {ρ s} (I : Inv cx ρ H s) : cx.K.In s.heap := P.kin.keeps I.keep

theorem kpr_of (P : PeOk pe cx) {ρ : Nat → Addr} {s : Shared} {fv : Value} {first : List Value} {g : V} (I : Inv cx ρ H s) (c : Cal H.n ρ s.heap fv first g) (hc : callable pe g = true) : Kpr cx fv s := by
  have fn : ∀ {a : Addr} {fd : FuncData}, pe.fn a = some fd → ∀ {A : Around} {Q : Keeper → Shared → Prop} {E : Value → Shared → Prop}, (∀ k, Q k s) → wpAny cx.M A (keeperOf (.ref a)) Q E s := fun {a fd} hf {A Q E} hQ => by
    obtain ⟨o, ho, hd⟩ := (P.fn hf).obj
    unfold keeperOf
    refine wpAny_bind (wpAny_load (I.keep _ _ ho) ?_)
    rw [hd]
    exact wpAny_pure (hQ _)
  cases c with
  | bm _ => intro A Q E hQ; exact wpAny_pure (hQ _)
  | mt _ =>
    simp only [callable, Option.isSome_iff_exists] at hc
    obtain ⟨fd, hf⟩ := hc
    intro A Q E hQ; exact fn hf hQ
  | obj rp =>
    cases rp with
    | none => simp [callable] at hc
    | bool => simp [callable] at hc
    | int => simp [callable] at hc
    | str => simp [callable] at hc
    | ref => simp [callable] at hc
    | tup => simp [callable] at hc
    | view => simp [callable] at hc
    | bf b => intro A Q E hQ; cases b <;> exact wpAny_pure (hQ _)
    | bm hp e q =>
      intro A Q E hQ
      unfold keeperOf
      refine wpAny_bind (wpAny_load e ?_)
      exact wpAny_pure (hQ _)
    | fn a =>
      simp only [callable, Bool.or_eq_true, Option.isSome_iff_exists] at hc
      rcases hc with ⟨fd, hf⟩ | ⟨g, hg⟩
      · intro A Q E hQ; exact fn hf hQ
      · have M := makes_of (M := cx.M) (kin_at P I) (P.init hg).1
        obtain ⟨oc, od, cd, sl, ho, _⟩ := M.obj
        intro A Q E hQ
        unfold keeperOf
        refine wpAny_bind (wpAny_load ho ?_)
        refine wpAny_bind (M.call.here ?_)
        exact wpAny_pure (hQ _)
    | mt e q =>
      simp only [callable, Option.isSome_iff_exists] at hc
      obtain ⟨fd, hf⟩ := hc
      obtain ⟨o, ho, hd⟩ := (P.fn hf).obj
      intro A Q E hQ
      unfold keeperOf
      refine wpAny_bind (wpAny_load e ?_)
      refine wpAny_bind (wpAny_load (I.keep _ _ ho) ?_)
      exact wpAny_pure (hQ _)

theorem Cal.step {ρ s ρ' s'} (I : Inv cx ρ H s) (S : Stp cx NoW ρ H s ρ' H' s') {fv first g} (c : Cal H.n ρ s.heap fv first g) : Cal H'.n ρ' s'.heap fv first g := by
  cases c with
  | obj a => exact .obj (S.rep I a)
  | mt a => exact .mt (S.rep I a)
  | bm a => exact .bm (S.rep I a)

theorem base_of {o : Expr} {name : Str} {env : Env} {m : Sem Value} (h : isSuper o = false) : attributeBase o name env m = m := by
  cases o with
  | Call f a k p => cases f with
    | Name id q => cases a with
      | nil => cases k with
        | nil =>
          have hid : (!(id == ("super" : Str))) = true := congrArg (!·) h
          show (if (!(id == ("super" : Str)) || _ || _ || _) = true then m else _) = m
          rw [hid]; rfl
        | cons => rfl
      | cons => rfl
    | _ => rfl
  | _ => rfl

theorem callWith_sound (P : PeOk pe cx) {A : Around} {env : Env} {pos : Pos} {g : V} {args : List Expr} {kws : List Keyword} {H1 H2 : Hp} {xs : List V} {kx : List (Str × V)} {ρ s fv first} {Q : Value → Shared → Prop} {E}
    (hc : callable pe g = true) (h1 : GL cx n sc loc args H xs H1) (h2 : GKw cx n sc loc kws H1 kx H2) (h3 : GCall cx n g xs kx H2 x H')
    (C : Cn cx n sc loc H A env ρ s) (c : Cal H.n ρ s.heap fv first g) (hQ : ∀ v s' ρ', Stp cx NoW ρ H s ρ' H' s' → Rep H'.n ρ' s'.heap v x → Q v s') :
    wpAny cx.M A (callWith pos fv first (backTo pos (starEach args env)) (backToKw pos (keywordEach kws env))) Q E s :=
  s_callWith (evalArgs_sound h1 h2 C fun a s1 ρ1 S1 ra rk => ⟨kpr_of P S1.inv (c.step C.inv S1) hc, h3 C.ar S1.inv (c.step C.inv S1) ra rk fun v s2 ρ2 S2 r2 => hQ v s2 ρ2 (S1.trans S2) r2⟩)

theorem few_of {k : Nat} {args : List (Bool × Sem Value)} {kws : List (Option Str × Sem Value)} (h1 : args.all (fun p => !p.1) = true) (h2 : kws.all (·.1.isSome) = true) (h : k ≤ 25) : methodCallForm k args kws = true := by
  unfold methodCallForm
  rw [h1, h2]
  simp only [Bool.and_self, Bool.true_and, decide_eq_true_eq]
  split <;> lia
theorem pos_of {o : Expr} {env : Env} {apos pos : Pos} (hl : apos.endLine = pos.line) : methodCallPos true o env apos pos = pure pos := by
  unfold methodCallPos
  rw [hl]; simp

theorem e_CallA (P : PeOk pe cx) {o : Expr} {name : Str} {apos pos : Pos} {args : List Expr} {kws : List Keyword} {H1 H2 H3 : Hp} {u g : V} {xs : List V} {kx : List (Str × V)} (hp : apos.endLine = pos.line) (hs : isSuper o = false) (hl : args.length + kws.length ≤ 25)
    (h1 : GE cx n sc loc o H u H1) (hg : attr pe H1 name u = some g) (hc : callable pe g = true) (h2 : GL cx n sc loc args H1 xs H2) (h3 : GKw cx n sc loc kws H2 kx H3) (h4 : GCall cx n g xs kx H3 x H') : GE cx (n + 1) sc loc (.Call (.Attribute o name apos) args kws pos) H x H' := fun {A env ρ s Q E} C hQ => by
  rw [arm_eval_Call, base_of hs]
  refine wpAny_bind (h1 C.low fun u' s1 ρ1 S1 r1 => wpAny_bind (wpAny_standAt ?_))
  unfold methodCall
  rw [few_of (h2.1 pos env) (h3.1 pos env).1 hl]
  refine wpAny_bind (wpAny_holding ?_)
  show wpAny _ _ (getMethod u' name _) _ _ _
  refine s_getMethod P hg S1.inv r1 fun f first s2 S2 c => ?_
  dsimp only
  rw [pos_of hp]
  exact wpAny_bind (wpAny_pure (callWith_sound P hc h2 h3 h4 ((C.low.step S1).step S2) c fun v s3 ρ3 S3 r3 => hQ v s3 ρ3 ((S1.trans S2).trans S3) r3))
theorem e_CallN (P : PeOk pe cx) {f : Str} {fp pos : Pos} {args : List Expr} {kws : List Keyword} {H2 H3 : Hp} {g : V} {xs : List V} {kx : List (Str × V)} (hg : look pe sc loc f = some g) (hc : callable pe g = true) (h2 : GL cx n sc loc args H xs H2) (h3 : GKw cx n sc loc kws H2 kx H3) (h4 : GCall cx n g xs kx H3 x H') :
    GE cx (n + 1) sc loc (.Call (.Name f fp) args kws pos) H x H' := fun {A env ρ s Q E} C hQ =>
  wpAny_Call_ofName (s_Name P hg C.en C.inv C.vars fun fv rf => callWith_sound P hc h2 h3 h4 C.low (.obj rf) hQ)
end
end Mine
end
section
open PySem PySem.W PyProof.Rows PySem.SeqAt
namespace Mine

/-- the lambda that gives a name's two parts -/
structure IsLam (params : Arguments) (body : Expr) (scope : Scope) : Prop where
  ex : ∃ ann np ap cp k1 p1 k2 p2 more, params = ⟨[], [⟨"n", none, ann⟩], none, [], [], none, []⟩ ∧ body = .Call (.Attribute (.Name "n" np) "split" ap) [.Constant (.str brace) k1 p1, .Constant (.int 1) k2 p2] [] cp ∧
    scope = ⟨.function, [("n", .local)], false, false, more⟩ ∧ ap.endLine = cp.line
theorem bind_lam {ann : Pos} {body : Expr} {sc : Scope} {q : Str} {pm cv ct v : Value} : bindArgs (kla_fn "<lambda>" q ⟨[], [⟨"n", none, ann⟩], none, [], [], none, []⟩ body sc [] pm cv ct) ⟨[v], []⟩ = pure [((Str.ofString "n"), v)] := by
  first | rfl | kernel_rfl

section
variable {cx : Cx} {A : Around} {s : Shared} {E : Value → Shared → Prop}

theorem meth_str {o : Expr} {name : Str} {apos pos : Pos} {args : List Expr} {env : Env} {x : Str} {t : Tok} {id : String} {Q : Value → Shared → Prop} (slot : Slot "str" name id) (ty : typeOf (.builtin id) = pure (.type "method_descriptor")) (hs : isSuper o = false)
    (hfew : methodCallForm (args.length + ([] : List Keyword).length) (backTo pos (starEach args env)) (backToKw pos (keywordEach [] env)) = true) (hl : apos.endLine = pos.line)
    (ho : wpAny cx.M A (eval o env) (fun v s₁ => v = .str x t ∧ wpAny cx.M A (evalArgs (.builtin id) true (backTo pos (starEach args env)) (backToKw pos (keywordEach [] env))) (fun a s₂ => wpAny cx.M A (call (.builtin id) ([.str x t] ++ a.pos) a.kw) Q E s₂) E s₁) E s) :
    wpAny cx.M A (eval (.Call (.Attribute o name apos) args [] pos) env) Q E s := by
  rw [arm_eval_Call, base_of hs]
  refine wpAny_bind (wpAny_mono ho (fun v s1 h1 => wpAny_bind (wpAny_standAt ?_)) fun _ _ e => e)
  obtain ⟨e, h1⟩ := h1
  have key : ∀ (pl : Sem Bool) (Q' : Value × List Value → Shared → Prop), Q' (.builtin id, [.str x t]) s1 → wpAny cx.M A (getMethod v name pl) Q' E s1 := fun pl Q' hq => by
    rw [e]; with_reducible exact gm_str slot ty hq
  unfold methodCall
  rw [hfew]
  refine wpAny_bind (wpAny_holding ?_)
  show wpAny _ _ (getMethod v name _) _ _ _
  refine key _ _ ?_
  dsimp only
  refine wpAny_bind ?_
  have ep : methodCallPos true o env apos pos = pure pos := by
    unfold methodCallPos
    rw [hl]; simp
  rw [ep]
  refine wpAny_pure (s_callWith (wpAny_mono h1 (fun a s2 h2 => ⟨?_, h2⟩) fun _ _ e => e))
  intro A Q E hQ; exact wpAny_pure (hQ _)

theorem lam_call (hnl : s.heap.NoLimit) (hA : A.depth + 2 < 1000) {fa : Addr} {params : Arguments} {body : Expr} {scope : Scope} {q : Str} {pm cv ct : Value} (L : IsLam params body scope)
    (ho : s.heap.get? fa = some { cls := .type "function", data := .func (kla_fn "<lambda>" q params body scope [] pm cv ct) }) (hc : s.heap.CodeRec cv q) {x : Str} {t : Tok} (hx : x.length + 2 ≤ lim) {Q : Value → Shared → Prop}
    (hQ : ∀ (l : List (Str × Tok)) (s' : Shared) (a : Addr), l.map (·.1) = nameKey x → (∀ b o, s.heap.get? b = some o → s'.heap.get? b = some o) → s.heap.get? a = none → s'.heap.get? a = some { cls := .type "list", data := .seq (strValues l).toArray } → s'.os = s.os → s'.gens = s.gens → Q (.ref a) s') :
    wpAny cx.M A (call (.ref fa) [.str x t]) Q E s := by
  obtain ⟨ann, np, ap, cp, k1, p1, k2, p2, more, rfl, rfl, rfl, hap⟩ := L.ex
  refine wpAny_call (kla_callFunE (by simp only [recursionLimit]; lia) ho rfl rfl rfl rfl hc ?_)
  rw [bind_lam]
  refine wpAny_pure (wpAny_newFunctionEnv (by simp) (by simp) (fun h₁ hns hsb => ⟨hnl.fresh _ hsb, ?_⟩) rfl)
  have hk₁ : ∀ b o, s.heap.get? b = some o → h₁.get? b = some o := fun b o e => hsb.extBut b o (Nat.ne_of_lt (Heap.lt_size e)) (Heap.get?_push_of_some _ e)
  refine kla_codeExpr ?_
  have hkd : (newEnv ⟨.function, [("n", .local)], false, false, more⟩ s.heap.objs.size mainGlobals [] (q ++ ".<locals>.") (some fa) cv none builtinsNs).kindOf "n" = some .local := rfl
  have hkf : (newEnv ⟨.function, [("n", .local)], false, false, more⟩ s.heap.objs.size mainGlobals [] (q ++ ".<locals>.") (some fa) cv none builtinsNs).scope.kind = .function := rfl
  have hlc : (newEnv ⟨.function, [("n", .local)], false, false, more⟩ s.heap.objs.size mainGlobals [] (q ++ ".<locals>.") (some fa) cv none builtinsNs).locals = s.heap.objs.size := rfl
  show wpAny _ _ (eval _ (newEnv ⟨.function, [("n", .local)], false, false, more⟩ s.heap.objs.size mainGlobals [] (q ++ ".<locals>.") (some fa) cv none builtinsNs)) _ _ _
  generalize newEnv ⟨.function, [("n", .local)], false, false, more⟩ s.heap.objs.size mainGlobals [] (q ++ ".<locals>.") (some fa) cv none builtinsNs = env at hkd hkf hlc ⊢
  rw [← hlc] at hns
  have hm : ([((Str.ofString "n"), Value.str x t)] : List (Str × Value)).reverse.lookup (Str.ofString "n") = some (.str x t) := by simp
  refine meth_str (x := x) (t := t) F.slot_str_split F.type_str_split rfl rfl hap (wpAny_Name (wpAny_loadName_local hkf hkd hns hm ?_) (by decide))
  refine ⟨rfl, ?_⟩
  refine evalArgs_kw2 rfl ?_
  have c1 : ∀ {s' : Shared} {Q' : Value → Shared → Prop} {E'}, Q' (.str brace s'.toks) { s' with toks := s'.toks + 1 } → wpAny cx.M (A.deeper env) (eval (.Constant (.str brace) k1 p1) env) Q' E' s' := fun hq => by
    rw [eval_Constant]; exact fun _ _ _ => hq
  have c2 : ∀ {s' : Shared} {Q' : Value → Shared → Prop} {E'}, Q' (.int 1 s'.toks) { s' with toks := s'.toks + 1 } → wpAny cx.M (A.deeper env) (eval (.Constant (.int 1) k2 p2) env) Q' E' s' := fun hq => by
    rw [eval_Constant]; exact fun _ _ _ => hq
  refine Calls.spliced_cons (c1 ?_)
  refine Calls.spliced_cons (c2 ?_)
  refine Calls.spliced_nil ?_
  refine kwAll_nil ?_
  refine h_split (by decide) hx (by decide) fun l tk hl => ?_
  refine hQ l _ _ hl (fun b o e => Heap.get?_push_of_some _ (hk₁ b o e)) ?_ (Heap.get?_push_size _ rfl) rfl rfl
  cases e : s.heap.get? h₁.objs.size with
  | none => rfl
  | some o => exact absurd (Heap.lt_size (hk₁ _ _ e)) (Nat.lt_irrefl _)
end
end Mine
end
section
open PySem PySem.W PyProof.Rows PySem.SeqAt
namespace Mine
section
variable {cx : Cx} {A : Around} {s : Shared} {E : Value → Shared → Prop}

/-- list < list, of strs -/
theorem lt_loop {a b : Addr} {l m : List (Str × Tok)} {j k : Nat} (ha : s.heap.get? a = some { cls := .type "list", data := .seq (strValues l).toArray j }) (hb : s.heap.get? b = some { cls := .type "list", data := .seq (strValues m).toArray k }) {R : Result → Shared → Prop} :
    ∀ (n i : Nat), l.length - i = n → i ≤ l.length → R (.ok (.ret (.bool (ltK ((l.drop i).map (·.1)) ((m.drop i).map (·.1)))))) s →
      codeAny cx.M A (.builtin "list.__eq__.loop" ⟨[.ref a, .ref b, rawInt i, rawInt 0], []⟩) R s := by
  have gv : ∀ (l : List (Str × Tok)) (i : Nat), (strValues l).toArray[i]? = (l[i]?).map fun p => Value.str p.1 p.2 := fun l i => by rw [strValues_eq]; simp
  have gz : ∀ (l : List (Str × Tok)), (strValues l).toArray.size = l.length := fun l => by rw [strValues_eq]; simp
  intro n
  induction n with
  | zero =>
    intro i hn hil' h
    refine codeAny_builtin MeetsSeq3.entry_eq_loop ?_
    rw [Around.under_plainId MeetsSeq3.plain_eq_loop _]
    unfold Builtin.«list.__eq__.loop»
    have hi : l.length ≤ i := by lia
    dsimp only [rawInt]
    show wpAny _ _ (Builtin.List.listItems (.ref a) >>= _) _ _ _
    refine wpAny_bind (listItems_at ha rfl (wpAny_bind (listItems_at hb rfl ?_)))
    rw [show (strValues l).toArray[((i : Nat) : Int).toNat]? = none by rw [Int.toNat_natCast, gv, List.getElem?_eq_none hi]; rfl]
    refine wpAny_bind (listItems_at ha rfl (wpAny_bind (listItems_at hb rfl ?_)))
    refine wpAny_pure ?_
    show R (.ok (.ret (.bool (decide ((strValues l).toArray.size < (strValues m).toArray.size))))) s
    rw [gz, gz]
    rw [List.drop_eq_nil_of_le hi, List.map_nil] at h
    cases hm : m.drop i with
    | nil =>
      rw [hm] at h
      have : m.length ≤ i := List.drop_eq_nil_iff.mp hm
      have e : decide (l.length < m.length) = false := by simp; lia
      rw [e]; exact h
    | cons p q =>
      rw [hm] at h
      have : i < m.length := by
        rcases Nat.lt_or_ge i m.length with h | h
        · exact h
        · rw [List.drop_eq_nil_of_le h] at hm; cases hm
      have e : decide (l.length < m.length) = true := by simp; lia
      rw [e]; exact h
  | succ n ih =>
    intro i hn hil' h
    have hil : i < l.length := by lia
    refine codeAny_builtin MeetsSeq3.entry_eq_loop ?_
    rw [Around.under_plainId MeetsSeq3.plain_eq_loop _]
    unfold Builtin.«list.__eq__.loop»
    dsimp only [rawInt]
    show wpAny _ _ (Builtin.List.listItems (.ref a) >>= _) _ _ _
    refine wpAny_bind (listItems_at ha rfl (wpAny_bind (listItems_at hb rfl ?_)))
    rw [List.drop_eq_getElem_cons hil, List.map_cons] at h
    by_cases him : i < m.length
    · rw [List.drop_eq_getElem_cons him, List.map_cons] at h
      have el : (strValues l).toArray[((i : Nat) : Int).toNat]? = some (.str l[i].1 l[i].2) := by rw [Int.toNat_natCast, gv, List.getElem?_eq_getElem hil]; rfl
      have em : (strValues m).toArray[((i : Nat) : Int).toNat]? = some (.str m[i].1 m[i].2) := by rw [Int.toNat_natCast, gv, List.getElem?_eq_getElem him]; rfl
      rw [el, em]
      refine wpAny_bind (PyProof.Rows.eqBool_str ?_)
      replace h : R (.ok (.ret (.bool (if l[i].1 = m[i].1 then ltK _ _ else ltS _ _)))) s := h
      by_cases he : l[i].1 = m[i].1
      · rw [if_pos he] at h
        refine wiT (beq_iff_eq.mpr he) (wpAny_pure ⟨plainId_quiet MeetsSeq3.plain_eq_loop _, ih (i + 1) (by lia) (by lia) h⟩)
      · refine wiF (ne_true_of_eq_false (beq_false_of_ne he)) ?_
        refine wpAny_bind (listItems_at ha rfl (wpAny_bind (listItems_at hb rfl ?_)))
        rw [if_neg he] at h
        rw [el, em]
        show wpAny _ _ (richCompare .Lt (.str l[i].1 l[i].2) (.str m[i].1 m[i].2) >>= _) _ _ _
        exact wpAny_bind (PyProof.Rows.lt_str (wpAny_pure h))
    · have hm : m.length ≤ i := by lia
      rw [List.drop_eq_nil_of_le hm] at h
      rw [show (strValues l).toArray[((i : Nat) : Int).toNat]? = some (.str l[i].1 l[i].2) by rw [Int.toNat_natCast, gv, List.getElem?_eq_getElem hil]; rfl, show (strValues m).toArray[((i : Nat) : Int).toNat]? = none by rw [Int.toNat_natCast, gv, List.getElem?_eq_none hm]; rfl]
      refine wpAny_bind (listItems_at ha rfl (wpAny_bind (listItems_at hb rfl ?_)))
      refine wpAny_pure ?_
      show R (.ok (.ret (.bool (decide ((strValues l).toArray.size < (strValues m).toArray.size))))) s
      rw [gz, gz, show decide (l.length < m.length) = false by simp; lia]
      exact h

theorem lt_list {a b : Addr} {l m : List (Str × Tok)} {j k : Nat} (hu : A.units < cLine) (ha : s.heap.get? a = some { cls := .type "list", data := .seq (strValues l).toArray j }) (hb : s.heap.get? b = some { cls := .type "list", data := .seq (strValues m).toArray k }) {Q : Bool → Shared → Prop}
    (h : Q (ltK (l.map (·.1)) (m.map (·.1))) s) : wpAny cx.M A (keyLt' oneType' (.ref a) (.ref b)) Q E s := by
  have hTa : s.TypeIs (.ref a) "list" := ⟨_, ha, rfl⟩
  have hTb : s.TypeIs (.ref b) "list" := ⟨_, hb, rfl⟩
  rw [keyLt'_oneType, oneLt'_eq]
  refine wiT rfl ?_
  refine wpAny_bind (wpAny_cRoomFor hu ?_)
  refine wpAny_bind (wpAny_callSpecialIfBound?_slot hTa F.slot_list_lt ?_)
  refine wpAny_call (codeAny_call_builtin F.slot_list_lt.plain F.entry_list_lt (F.slot_list_lt.check _ _ _ _ _ _ _ _ hTa (F.args_list_lt_2 _ _) ?_))
  show wpAny _ _ (isInstance (.ref b) (.type "list") >>= fun t => if (!t) = true then ret .notImplemented else again (.builtin "list.__eq__.loop" ⟨[.ref a, .ref b, rawInt (0 : Nat), rawInt 0], []⟩)) _ _ _
  refine wpAny_bind (wpAny_isInstance hTb AutoSeq1.sub_list_list ?_)
  refine wiF Bool.false_ne_true ?_
  refine wpAny_pure ⟨plainId_quiet MeetsSeq3.plain_eq_loop _, lt_loop ha hb _ 0 rfl (Nat.zero_le _) ?_⟩
  exact wpAny_truthy_bool h
end
end Mine
end
section
open PySem PySem.W PyProof.Rows PySem.SeqAt
namespace Mine
section
variable {cx : Cx} {A : Around} {s : Shared} {E : Value → Shared → Prop}

/-- the keys made so far -/
noncomputable def KeysAt (h : Heap) : List Value → List Str → Prop
  | [], [] => True
  | k :: ks, x :: xs => (∃ b l, k = .ref b ∧ h.get? b = some { cls := .type "list", data := .seq (strValues l).toArray } ∧ l.map (·.1) = nameKey x) ∧ KeysAt h ks xs
  | _, _ => False
theorem KeysAt.keep {h h' : Heap} (kS : Addr) (hk : ∀ b o, b ≠ kS → h.get? b = some o → h'.get? b = some o) : ∀ {ks xs}, (∀ k ∈ ks, k ≠ Value.ref kS) → KeysAt h ks xs → KeysAt h' ks xs
  | [], [], _, _ => trivial
  | k :: ks, x :: xs, hn, ⟨⟨b, l, e1, e2, e3⟩, r⟩ => ⟨⟨b, l, e1, hk b _ (fun q => hn k (.head _) (by rw [e1, q])) e2, e3⟩, KeysAt.keep kS hk (fun k' hk' => hn k' (.tail _ hk')) r⟩
theorem KeysAt.snoc {h : Heap} {b : Addr} {l : List (Str × Tok)} {x : Str} (e2 : h.get? b = some { cls := .type "list", data := .seq (strValues l).toArray }) (e3 : l.map (·.1) = nameKey x) : ∀ {ks xs}, KeysAt h ks xs → KeysAt h (ks ++ [.ref b]) (xs ++ [x])
  | [], [], _ => ⟨⟨b, l, rfl, e2, e3⟩, trivial⟩
  | _ :: _, _ :: _, ⟨a, r⟩ => ⟨a, KeysAt.snoc e2 e3 r⟩
theorem KeysAt.length {h : Heap} : ∀ {ks xs}, KeysAt h ks xs → ks.length = xs.length
  | [], [], _ => rfl
  | _ :: _, _ :: _, ⟨_, r⟩ => by simp [KeysAt.length r]
theorem KeysAt.get {h : Heap} : ∀ {ks xs}, KeysAt h ks xs → ∀ i, i < ks.length → ∃ b l, ks.getD i .none = .ref b ∧ h.get? b = some { cls := .type "list", data := .seq (strValues l).toArray } ∧ l.map (·.1) = nameKey (xs.getD i Str.empty)
  | [], [], _, i, hi => by simp at hi
  | _ :: _, _ :: _, ⟨⟨b, l, e1, e2, e3⟩, r⟩, 0, _ => ⟨b, l, e1, e2, e3⟩
  | _ :: _, _ :: _, ⟨_, r⟩, i + 1, hi => by simpa using KeysAt.get r i (by simpa using hi)

/-- strs in a list -/
noncomputable def StrsL : List Value → List Str → Prop
  | [], [] => True
  | v :: vs, x :: xs => (∃ t, v = .str x t) ∧ StrsL vs xs
  | _, _ => False
theorem StrsL.rep {n ρ h} : ∀ {vs xs}, StrsL vs xs → RepL n ρ h vs (xs.map .str)
  | [], [], _ => .nil
  | _ :: _, _ :: _, ⟨⟨t, e⟩, r⟩ => by subst e; exact .cons (.str _ _) r.rep
theorem StrsL.length : ∀ {vs xs}, StrsL vs xs → vs.length = xs.length
  | [], [], _ => rfl
  | _ :: _, _ :: _, ⟨_, r⟩ => by simp [StrsL.length r]

/-- the lambda, as it lies -/
structure LamAt (h : Heap) (fa : Addr) : Prop where
  ex : ∃ params body scope q pm cv ct, IsLam params body scope ∧ h.get? fa = some { cls := .type "function", data := .func (kla_fn "<lambda>" q params body scope [] pm cv ct) } ∧ CodeC h cv q
theorem LamAt.call {fa : Addr} (L : LamAt s.heap fa) (hnl : s.heap.NoLimit) (hA : A.depth + 2 < 1000) {x : Str} {t : Tok} (hx : x.length + 2 ≤ lim) {Q : Value → Shared → Prop}
    (hQ : ∀ (l : List (Str × Tok)) (s' : Shared) (a : Addr), l.map (·.1) = nameKey x → (∀ b o, s.heap.get? b = some o → s'.heap.get? b = some o) → s.heap.get? a = none → s'.heap.get? a = some { cls := .type "list", data := .seq (strValues l).toArray } → s'.os = s.os → s'.gens = s.gens → Q (.ref a) s') :
    wpAny cx.M A (call (.ref fa) [.str x t]) Q E s := by
  obtain ⟨params, body, scope, q, pm, cv, ct, h1, h2, c, o, vs, t, e1, e2, e3, e4, e5⟩ := L.ex
  exact lam_call hnl hA h1 h2 ⟨c, o, vs, t, e1, e2, e4, e5⟩ hx hQ
theorem LamAt.keep {h h' : Heap} {fa kS : Addr} (L : LamAt h fa) (hk : ∀ b o, b ≠ kS → h.get? b = some o → h'.get? b = some o) (hl : ∃ o, h.get? kS = some o ∧ o.cls = .type "list") : LamAt h' fa := by
  obtain ⟨o', ho', hc'⟩ := hl
  obtain ⟨params, body, scope, q, pm, cv, ct, h1, h2, c, o, vs, t, e1, e2, e3, e4, e5⟩ := L.ex
  exact ⟨params, body, scope, q, pm, cv, ct, h1, hk _ _ (fun q => by rw [q, ho'] at h2; cases h2; simp at hc') h2, c, o, vs, t, e1, hk _ _ (fun q => by rw [q, ho'] at e2; cases e2; rw [hc'] at e3; simp at e3) e2, e3, e4, e5⟩

theorem LamAt.keeps {h h' : Heap} {fa : Addr} (L : LamAt h fa) (hk : ∀ b o, h.get? b = some o → h'.get? b = some o) : LamAt h' fa := by
  obtain ⟨params, body, scope, q, pm, cv, ct, h1, h2, c, o, vs, t, e1, e2, e3, e4, e5⟩ := L.ex
  exact ⟨params, body, scope, q, pm, cv, ct, h1, hk _ _ h2, c, o, vs, t, e1, hk _ _ e2, e3, e4, e5⟩

theorem keys_loop {kS fa : Addr} (hA : A.depth + 2 < 1000) {body : Value → PUnit → Sem (ForInStep PUnit)}
    (hb : ∀ x (s : Shared) (R : ForInStep PUnit → Shared → Prop), wpAny cx.M A (call (.ref fa) [x]) (fun k s' => ∃ ks e, s'.heap.get? kS = some (seqObj "list" (List.toArray ks) e) ∧ ks.length < 64 ∧ R (.yield ⟨⟩) { s' with heap := s'.heap.update kS (Obj.mapSeq (·.push k)) }) (fun _ _ => False) s → wpAny cx.M A (body x ⟨⟩) R E s)
    {s₀ : Shared} (hnl : ∀ h : Heap, (∀ b o, b ≠ kS → s₀.heap.get? b = some o → h.get? b = some o) → h.NoLimit) :
    ∀ (vs : List Value) (xs done : List Str) (ks : List Value) (e : Nat) (s : Shared) {Q : PUnit → Shared → Prop}, StrsL vs xs → (∀ x ∈ xs, x.length + 2 ≤ lim) → done.length + xs.length < 64 → KeysAt s.heap ks done → (∀ k ∈ ks, k ≠ Value.ref kS) → s.heap.get? kS = some (seqObj "list" (List.toArray ks) e) → LamAt s.heap fa →
      (∀ b o, b ≠ kS → s₀.heap.get? b = some o → s.heap.get? b = some o) → s.os = s₀.os → s.gens = s₀.gens →
      (∀ (s' : Shared) ks' e', KeysAt s'.heap ks' (done ++ xs) → s'.heap.get? kS = some (seqObj "list" (List.toArray ks') e') → (∀ k ∈ ks', k ≠ Value.ref kS) → (∀ b o, b ≠ kS → s₀.heap.get? b = some o → s'.heap.get? b = some o) → s'.os = s₀.os → s'.gens = s₀.gens → Q ⟨⟩ s') →
      wpAny cx.M A (forIn vs PUnit.unit body) Q E s := by
  intro vs
  induction vs with
  | nil =>
    intro xs done ks e s Q hst hx h64 hK hn hS hL hk h1 h2 hQ
    cases xs with
    | cons _ _ => exact hst.elim
    | nil =>
      rw [List.forIn_nil]
      exact wpAny_pure (hQ s ks e (by simpa using hK) hS hn hk h1 h2)
  | cons v vs ih =>
    intro xs done ks e s Q hst hx h64 hK hn hS hL hk h1 h2 hQ
    cases xs with
    | nil => exact hst.elim
    | cons x xs =>
    obtain ⟨⟨t, ev⟩, hst⟩ := hst
    subst ev
    rw [List.forIn_cons]
    refine wpAny_bind (hb _ s _ (hL.call (hnl _ hk) hA (hx x (.head _)) fun l s' a hl hks hfr ha ho hg => ?_))
    have hS' := hks _ _ hS
    have hne : a ≠ kS := fun q => by rw [q, hS] at hfr; cases hfr
    refine ⟨ks, e, hS', by rw [hK.length]; simp at h64; lia, ?_⟩
    dsimp only
    have hsb : Heap.SameBut kS s'.heap (s'.heap.update kS (Obj.mapSeq (·.push (Value.ref a)))) := Heap.SameBut.update ..
    have ea : (List.toArray ks).push (.ref a) = List.toArray (ks ++ [.ref a]) := by simp
    obtain ⟨c2, hc2⟩ : ∃ c2, (s'.heap.update kS (Obj.mapSeq (·.push (Value.ref a)))).get? kS = some (seqObj "list" (List.toArray (ks ++ [.ref a])) c2) := ⟨_, by rw [← ea]; exact get?_update_seq hS' (·.push (Value.ref a))⟩
    refine ih xs (done ++ [x]) (ks ++ [.ref a]) c2 { s' with heap := s'.heap.update kS (Obj.mapSeq (·.push (Value.ref a))) } hst (fun y hy => hx y (.tail _ hy)) (by simp at h64 ⊢; lia) ?_ ?_ hc2 ?_ ?_ (ho.trans h1) (hg.trans h2) ?_
    · exact KeysAt.snoc (hsb.extBut _ _ hne ha) hl (hK.keep kS (fun b o hb e => hsb.extBut b o hb (hks b o e)) hn)
    · intro k hk'
      rcases List.mem_append.mp hk' with hk' | hk'
      · exact hn k hk'
      · rw [List.mem_singleton.mp hk']; intro q; cases q; exact hne rfl
    · exact hL.keep (fun b o hb e => hsb.extBut b o hb (hks b o e)) ⟨_, hS, rfl⟩
    · exact fun b o hb e => hsb.extBut b o hb (hks b o (hk b o hb e))
    · intro s2 ks' e' q1 q2 q3 q4 q5 q6
      exact hQ s2 ks' e' (by simpa using q1) q2 q3 q4 q5 q6

theorem key_sort {a fa : Addr} {vs : List Value} {n : Nat} {xs : List Str} {P : PySem.Fin → Shared → Prop} (hu : A.units < cLine) (hA : A.depth + 2 < 1000) (ho : s.heap.get? a = some (seqObj "list" vs.toArray n)) (hv : StrsL vs xs) (hx : ∀ x ∈ xs, x.length + 2 ≤ lim) (h64 : xs.length < 3) (hnd : (xs.map nameKey).Nodup)
    (hL : LamAt s.heap fa) (hnl : ∀ h : Heap, (∀ b o, b ≠ a → s.heap.get? b = some o → h.get? b = some o) → h.NoLimit)
    (h : ∀ (s' : Shared) ws k, Heap.ExtBut a s.heap s'.heap → s'.heap.get? a = some (seqObj "list" ws k) → (∀ n ρ h, RepL n ρ h ws.toList ((sortK nameKey xs).map .str)) → s'.os = s.os → s'.gens = s.gens → P (.done (.ret .none)) s') :
    wpAny cx.M A (ksk_tree a (.ref fa) false) P E s := by
  have hlv := hv.length
  have ha : a < s.heap.objs.size := Heap.lt_size ho
  obtain ⟨e1, ho1⟩ : ∃ e1, (s.heap.update a (Obj.mapSeq fun _ => (#[] : Array Value))).get? a = some (seqObj "list" #[] e1) := ⟨_, get?_update_seq ho fun _ => #[]⟩
  unfold ksk_tree
  refine wpAny_bind (listItems_at ho rfl ?_)
  refine wpAny_bind (listUpdate_at ho rfl ?_ (by rw [List.size_toArray, sizeLine_eq]; lia) (Nat.zero_le _))
  refine wpAny_bind (seqEpoch_at ho1 rfl ?_)
  refine wpAny_bind (wpAny_newTuple ?_ (by show vs.length ≤ _; rw [sizeLine_eq]; lia))
  refine wpAny_bind (wpAny_newList ?_ (Nat.zero_le _))
  refine wpAny_holding ?_
  show wpAny cx.M A _ P E { s with heap := sortHeap s.heap a vs }
  have hkSv : ((s.heap.update a (Obj.mapSeq fun _ => (#[] : Array Value))).push (seqObj "tuple" vs.toArray 0)).objs.size = s.heap.objs.size + 1 := by rw [size_push', Heap.size_update]
  have hkS : (sortHeap s.heap a vs).get? (s.heap.objs.size + 1) = some (seqObj "list" #[] 0) := by rw [← hkSv]; exact Heap.get?_push_size _ rfl
  rw [show (Heap.push (Heap.update s.heap a (Obj.mapSeq fun _ => (#[] : Array Value))) { cls := .type "tuple", data := .seq (vs.toArray).toList.toArray }).objs.size = s.heap.objs.size + 1 from by rw [Heap.size_push, Heap.size_update]]
  have hx0 : Heap.ExtBut a s.heap (sortHeap s.heap a vs) := fun b o hb e => sortHeap_get e hb
  have ho3 : (sortHeap s.heap a vs).get? a = some (seqObj "list" #[] e1) := Heap.get?_push_of_some _ (Heap.get?_push_of_some _ ho1)
  have hak : a ≠ s.heap.objs.size + 1 := by have : a < s.heap.objs.size := ha; exact Nat.ne_of_lt (Nat.lt_succ_of_lt this)
  have hold : ∀ b o, s.heap.get? b = some o → b ≠ s.heap.objs.size + 1 := fun b o e => Nat.ne_of_lt (Nat.lt_succ_of_lt (Heap.lt_size e))
  unfold ksk_rest
  refine wpAny_bind (wpAny_rule ?_)
  rw [← Array.forIn_toList]
  refine wpAny_bind (keys_loop (kS := s.heap.objs.size + 1) (fa := fa) (s₀ := { s with heap := sortHeap s.heap a vs }) hA (fun x s1 R hc => ?_) (fun h' hk' => hnl h' fun b o hb e => hk' b o (hold b o e) (hx0 b o hb e)) vs xs [] [] 0 { s with heap := sortHeap s.heap a vs } hv hx (by simp; lia) trivial (fun _ h => by cases h) hkS (hL.keep (fun b o hb e => hx0 b o hb e) ⟨_, ho, rfl⟩) (fun _ _ _ e => e) rfl rfl fun s2 ks e hK hS hn hk hos hgs => ?_)
  · refine wpAny_bind (wpAny_attempt (wpAny_mono hc (fun k s2 hk => ?_) fun e s2 he => ?_))
    · obtain ⟨ks, e, hS, hz, hR⟩ := hk
      dsimp only
      refine wpAny_bind (listUpdate_at hS rfl ?_ (by rw [List.size_toArray, sizeLine_eq]; lia) (Nat.le_trans (Nat.le_of_eq (Array.size_push ..)) (by rw [List.size_toArray, sizeLine_eq]; lia)))
      exact wpAny_pure hR
    · exact he.elim
  rw [List.nil_append] at hK
  have hkl := hK.length
  refine wpAny_bind (listItems_at hS rfl ?_)
  have hka : ∀ b o, s.heap.get? b = some o → b ≠ a → s2.heap.get? b = some o := fun b o e hb => hk b o (hold b o e) (hx0 b o hb e)
  have ho4 := hk a _ hak ho3
  unfold ksk_end
  simp only [Bool.false_eq_true, if_false]
  have tail : ∀ (st : SortSt) (out : List Value), (arrOf st).map (·.2) = out.toArray → failedOf st = none → out.length = vs.length → (∀ n ρ h, RepL n ρ h out ((sortK nameKey xs).map .str)) → wpAny cx.M A (ksk_tail a false e1 (.ref (s.heap.objs.size + 1)) st) P E s2 := fun st out h1 h2 h3 h4 => by
    unfold ksk_tail
    simp only [h1, Bool.false_eq_true, if_false]
    refine wpAny_bind (listUpdate_at hS rfl ?_ (by rw [List.size_toArray, sizeLine_eq]; lia) (Nat.zero_le _))
    refine wpAny_bind (wpAny_letGo ?_)
    have hb1 : Heap.SameBut (s.heap.objs.size + 1) s2.heap (s2.heap.update (s.heap.objs.size + 1) (Obj.mapSeq fun _ => (#[] : Array Value))) := Heap.SameBut.update ..
    have ho5 := hb1.extBut _ _ hak ho4
    refine wpAny_bind (seqEpoch_at ho5 rfl ?_)
    refine wpAny_bind (listUpdate_at ho5 rfl ?_ (Nat.zero_le _) (by rw [List.size_toArray, sizeLine_eq]; lia))
    rw [h2]
    simp only [bne_self_eq_false, Bool.false_eq_true, if_false]
    obtain ⟨k, e⟩ : ∃ k, ((s2.heap.update (s.heap.objs.size + 1) (Obj.mapSeq fun _ => (#[] : Array Value))).update a (Obj.mapSeq fun _ => out.toArray)).get? a = some (seqObj "list" out.toArray k) := ⟨_, get?_update_seq ho5 fun _ => out.toArray⟩
    refine wpAny_pure (h _ out.toArray k (fun b o hb e => ?_) e (fun n ρ h => by simpa using h4 n ρ h) hos hgs)
    exact (Heap.get?_update_other _ _ (Ne.symm hb)).trans (hb1.extBut b o (hold b o e) (hka b o e hb))
  by_cases h2 : vs.length < 2
  · have hn2 : vs.toArray.size < 2 := by rw [List.size_toArray]; lia
    rw [if_pos hn2, if_pos hn2]
    refine wpAny_bind (wpAny_pure ?_)
    refine wpAny_bind (wpAny_pure ?_)
    dsimp only
    refine tail _ vs ?_ rfl rfl fun n ρ h => ?_
    · show ((List.toArray ks).zip vs.toArray).map (·.2) = vs.toArray
      apply Array.toList_inj.mp
      simp [List.map_snd_zip (show vs.length ≤ ks.length by lia)]
    · have e : sortK nameKey xs = xs := by
        cases xs with
        | nil => rfl
        | cons x l => cases l with
          | nil => rfl
          | cons y l => exact absurd (Nat.lt_of_le_of_lt (Nat.le_of_eq hlv.symm) h2) (Nat.not_lt.mpr (Nat.le_add_left 2 l.length))
      rw [e]; exact hv.rep
  · obtain ⟨x, y, rfl⟩ := len2 (hlv ▸ h2) h64
    obtain ⟨v, w, rfl⟩ := len2 h2 (by rw [hlv]; exact h64)
    have hn2 : ¬ [v, w].toArray.size < 2 := Nat.lt_irrefl 2
    rw [if_neg hn2, if_neg hn2]
    have hkl2 : ks.length = 2 := hkl
    refine wpAny_bind (kas_kind (T := .type "list") (Nat.le_of_eq hkl2.symm) (fun v hv' => ?_) (by decide) (by decide) ?_)
    · obtain ⟨i, hi, rfl⟩ := List.mem_iff_getElem.mp hv'
      obtain ⟨b, l, e1, e2, _⟩ := hK.get i hi
      rw [List.getD_eq_getElem?_getD, List.getElem?_eq_getElem hi] at e1
      rw [show ks[i] = .ref b from e1]
      exact (Looks.ld e2).andThen .now
    obtain ⟨b, l, e1, e2, e3⟩ := hK.get 1 (by rw [hkl2]; decide)
    obtain ⟨b', l', f1, f2, f3⟩ := hK.get 0 (by rw [hkl2]; decide)
    have ask : (kas_sort 2).kasWp (kas_ask cx.prog cx.w A oneType' ks) (fun p s' => p = (bif ltK (nameKey y) (nameKey x) then #[1, 0] else #[0, 1]) ∧ s' = s2) s2 := by
      rw [sort2]
      show wpAny _ _ (keyLt' oneType' (ks.getD 1 .none) (ks.getD 0 .none)) _ _ _
      rw [e1, f1]
      refine lt_list hu e2 f2 ?_
      rw [e3, f3]; exact ⟨rfl, rfl⟩
    refine wpAny_bind (wpAny_mono (kat_run (ks := ks) (vs := [v, w]) (Q := fun st' s' => ∃ p : Array Nat, p.size = 2 ∧ arrOf st' = p.map (kas_item ((List.toArray ks).zip (List.toArray [v, w]))) ∧ failedOf st' = none ∧ (p = (bif ltK (nameKey y) (nameKey x) then #[1, 0] else #[0, 1]) ∧ s' = s2))
      hkl2 (Nat.le_refl 2) (Nat.le_of_ble_eq_true rfl) (fun p' st' s' a1 a2 a3 a4 => ⟨p', a1, a2, a3, a4⟩) ask) ?_ fun _ _ x => x)
    rintro ⟨⟨⟩, st'⟩ s' ⟨p, hp, har, hf, rfl, rfl⟩
    dsimp only
    have hk : nameKey x ≠ nameKey y := fun q => (List.nodup_cons.mp hnd).1 (by rw [q]; exact List.mem_singleton.mpr rfl)
    refine tail st' (bif ltK (nameKey y) (nameKey x) then [w, v] else [v, w]) ((kat_snds hkl2 har).trans ?_) hf ?_ fun n ρ h => ?_
    · cases ltK (nameKey y) (nameKey x) <;> rfl
    · cases ltK (nameKey y) (nameKey x) <;> rfl
    · rw [← sort_eq hk]
      have hr : RepL n ρ h [v, w] [.str x, .str y] := hv.rep
      cases hr with | cons r1 r =>
      cases r with | cons r2 r =>
      cases ltK (nameKey y) (nameKey x)
      · exact .cons r1 (.cons r2 .nil)
      · exact .cons r2 (.cons r1 .nil)
end
end Mine
end
section
open PySem PySem.W PyProof.Rows PySem.SeqAt
namespace Mine

theorem among_snoc {pos : Pos} {a b : Int} {c cv : Value} : ∀ (l : List Value), TriplesOk l → codeAmong pos (l ++ [rawInt a, rawInt b, c]) = some cv → codeAmong pos l = some cv ∨ cv = c := fun l h e => by
  fun_induction TriplesOk l with
  | case1 =>
    simp only [List.nil_append, rawInt, codeAmong] at e
    split at e
    · cases e; exact .inr rfl
    · cases e
  | case2 a' t b' u x rest ih =>
    simp only [List.cons_append, codeAmong] at e ⊢
    split at e
    · rename_i hc; cases e; rw [if_pos hc]; exact .inl rfl
    · rename_i hc; rw [if_neg hc]; exact ih h e
  | case3 l h1 h2 => exact h.elim

section
variable {cx : Cx} {A : Around} {s : Shared} {E : Value → Shared → Prop} {env : Env} {c P : Addr} {ps : Array Value} {pos : Pos} {firstLine : Nat} {mg : Str → Option Value} {qual : Str} {params : Arguments} {body : Expr} {scope : Scope} {Q : Value → Shared → Prop}

theorem lam_miss (hcl : closureFor scope env = pure []) (hge0 : env.globals = mainGlobals) (hg : s.heap.Ns mainGlobals mg) (hcode : env.code = .ref c) (C : CodeHd s.heap c P) (hP : s.heap.get? P = some (tabObj ps)) (ht : TriplesOk ps.toList)
    (hnf : codeAmong pos ps.toList = none) (hgP : mainGlobals ≠ P) (hb : s.heap.BuiltinsAt mg P)
    (h : ∀ c' h' tk, Heap.ExtBut P s.heap h' → CodeC h' (.ref c') qual → h'.get? P = some (tabObj (ps ++ #[rawInt pos.line, rawInt pos.col, .ref c'])) →
      Q (.ref h'.objs.size) { s with heap := h'.push { cls := .type "function", data := .func (kla_fn "<lambda>" qual params body scope [] ((mg "__name__").getD .none) (.ref c') .none) }, toks := tk }) :
    wpAny cx.M A (makeFunction "<lambda>" qual params (.expr body) scope env [] [] [] pos firstLine) Q E s := by
  obtain ⟨bm, ob, hbm, hne0, _, hneP, hbo, hcls, hdict, hdata⟩ := hb
  rw [makeFunction_eq]
  simp only [List.zip_nil_right, List.filterMap_nil, List.isEmpty_nil, if_true, pure_bind]
  unfold makeTail
  rw [hcl, hge0]
  refine wpAny_bind (wpAny_pure ?_)
  simp only [List.isEmpty_nil, if_true]
  refine wpAny_bind (wpAny_pure ?_)
  refine wpAny_bind (wpAny_functionCodeX hcode (C.code hP ht) (C.tab hP) hnf fun c' h' tk hx hge hlt _ hrec htb hnew => ?_)
  have hg' := hg.extBut hx hgP
  refine wpAny_bind (wpAny_builtinsFor hg' hbm hne0 (hx _ _ hneP hbo) hcls hdict hdata ?_)
  refine wpAny_bind (wpAny_nsGet hg' ?_)
  refine wpAny_bind (wpAny_pure (wpAny_newObj_type (h c' h' tk hx ?_ htb.2) (by size_fits)))
  obtain ⟨P', _, _, ⟨o, vs, e1, e2, e3, _⟩, _⟩ := hnew
  obtain ⟨c2, o2, vs2, t2, f0, f1, f2, f3⟩ := hrec
  cases f0
  exact ⟨c', o2, vs2, t2, rfl, f1, by rw [f1] at e1; cases e1; exact e2, f2, f3⟩
end

section
variable {pe : Pe} {cx : Cx} {A : Around} {s : Shared} {E : Value → Shared → Prop} {ρ : Nat → Addr} {H : Hp} {sc : Sc}

theorem hp_put_self {i : Nat} {o : AObj} (h : H.f i = o) : H.put i o = H := by
  refine congrArg (fun g => Hp.mk g H.n) (funext fun j => ?_)
  by_cases e : j = i
  · rw [if_pos e, e]; exact h.symm
  · rw [if_neg e]

theorem s_lambda (Pk : PeOk pe cx) {env : Env} {params : Arguments} {body : Expr} {scope : Scope} {lpos : Pos} {c P : Addr} {q : Str} (N : EnvOk cx env sc) (L : IsLam params body scope) (hlam : cx.lam sc = some (c, P, q)) (h0 : 0 < H.n) (hf : H.f 0 = .tab P q) (I : Inv cx ρ H s) {Q : Value → Shared → Prop}
    (hQ : ∀ fa s', Stp cx NoW ρ H s ρ H s' → LamAt s'.heap fa → Q (.ref fa) s') : wpAny cx.M A (eval (.Lambda params body scope lpos) env) Q E s := by
  obtain ⟨ann, np, ap, cp, k1, p1, k2, p2, more, e1, e2, e3, hap⟩ := id L.ex
  obtain ⟨hcode, hq⟩ := N.lam c P q hlam
  obtain ⟨C, mg, hNs, hB, hgP⟩ := Pk.lamOk hlam
  have hT := I.objs 0 h0
  rw [hf] at hT
  obtain ⟨hρ, ps, hP, htr, hall⟩ := hT
  have hNs' : s.heap.Ns mainGlobals mg := hNs.keeps I.keep
  have C' := C.keeps I.keep
  have hB' : s.heap.BuiltinsAt mg P := let ⟨bm, o, a1, a2, a3, a4, a5, a6⟩ := hB; ⟨bm, o, a1, a2, a3, a4, I.keep _ _ a5, a6⟩
  have hcl : closureFor scope env = pure [] := by subst e3; rfl
  have hdef : defaultsOf params env = ([], []) := by subst e1; rfl
  refine kla_eval hdef ?_
  rw [hq]
  cases hc : codeAmong lpos ps.toList with
  | some cv =>
    refine kla_makeFunctionHit hcl N.globals hNs' hcode C' hP htr hc hB' fun ctv h' tk hkeep _ => ?_
    have hCv := hall lpos cv hc
    refine hQ _ _ (Stp.grown _ I (fun b o e => Heap.get?_push_of_some _ (hkeep b o e)) rfl I.bare) ⟨params, body, scope, q, _, cv, ctv, L, Heap.get?_push_size _ rfl, ?_⟩
    obtain ⟨c2, o2, vs2, t2, f0, f1, f2⟩ := hCv
    exact ⟨c2, o2, vs2, t2, f0, Heap.get?_push_of_some _ (hkeep _ _ f1), f2⟩
  | none =>
    refine lam_miss hcl N.globals hNs' hcode C' hP htr hc hgP hB' fun c' h' tk hx hCv hP' => ?_
    have up : ∀ (o : Obj) {cv}, CodeC h' cv q → CodeC (h'.push o) cv q := fun o cv ⟨c2, o2, vs2, t2, f0, f1, f2⟩ => ⟨c2, o2, vs2, t2, f0, Heap.get?_push_of_some _ f1, f2⟩
    have S : ∀ o : Obj, Stp cx NoW ρ H s ρ (H.put 0 (.tab P q)) { s with heap := h'.push o, toks := tk } := fun o => by
      refine Stp.putX _ I h0 (fun b o' hb e => Heap.get?_push_of_some _ (hx b o' (by rw [← hρ]; exact hb) e)) ⟨hρ, _, Heap.get?_push_of_some _ hP', ?_, fun pos' cv' e => ?_⟩ rfl I.bare
      · have := TriplesOk_snoc lpos.line lpos.col (.ref c') ps.toList htr
        simpa using this
      · have e' : codeAmong pos' (ps.toList ++ [rawInt lpos.line, rawInt lpos.col, .ref c']) = some cv' := by simpa using e
        rcases among_snoc _ htr e' with q1 | rfl
        · obtain ⟨c2, o2, vs2, t2, f0, f1, f2, f3⟩ := hall pos' cv' q1
          refine ⟨c2, o2, vs2, t2, f0, Heap.get?_push_of_some _ (hx _ _ (fun q => ?_) f1), f2, f3⟩
          rw [q, hP] at f1; cases f1; simp at f2
        · exact up o hCv
    rw [hp_put_self hf] at S
    exact hQ _ _ (S _) ⟨params, body, scope, q, _, _, _, L, Heap.get?_push_size _ rfl, up _ hCv⟩
end
end Mine
end
section
open PySem PySem.W PyProof.Rows PySem.SeqAt
namespace Mine
section
variable {pe : Pe} {cx : Cx} {n : Nat} {sc : Sc} {loc : Loc} {H H' : Hp} {x : V}

theorem strsL_perm_keys {prog : Program} {w : World} : ∀ {vs : List Value}, (∀ v ∈ vs, ∃ k, (PySem.strKind prog w).is k v = true) → ∃ xs, StrsL vs xs
  | [], _ => ⟨[], trivial⟩
  | v :: vs, h => by
    obtain ⟨k, hk⟩ := h v (.head _)
    obtain ⟨t, rfl⟩ := str_of_is hk
    obtain ⟨xs, hxs⟩ := strsL_perm_keys (vs := vs) fun v hv => h v (.tail _ hv)
    exact ⟨k :: xs, ⟨t, rfl⟩, hxs⟩
theorem StrsL.mem {prog : Program} {w : World} : ∀ {vs xs}, StrsL vs xs → ∀ k, k ∈ xs ↔ ∃ v ∈ vs, (PySem.strKind prog w).is k v = true
  | [], [], _, k => by simp
  | v :: vs, x :: xs, ⟨⟨t, e⟩, r⟩, k => by
    subst e
    rw [List.mem_cons, StrsL.mem (prog := prog) (w := w) r k]
    constructor
    · rintro (rfl | ⟨v, hv, q⟩)
      · exact ⟨_, .head _, strKind_is _ _ _ _⟩
      · exact ⟨v, .tail _ hv, q⟩
    · rintro ⟨v, hv, q⟩
      rcases List.mem_cons.mp hv with rfl | hv
      · obtain ⟨t', e⟩ := str_of_is q; cases e; exact .inl rfl
      · exact .inr ⟨v, hv, q⟩

theorem perm_of_nodup {α : Type} [DecidableEq α] : ∀ {ks l : List α}, ks.Nodup → l.length = ks.length → (∀ k, k ∈ ks → k ∈ l) → l.Perm ks
  | [], l, _, hl, _ => by obtain rfl := List.length_eq_zero_iff.mp hl; exact .refl _
  | k :: ks, l, hn, hl, hm => by
    rw [List.nodup_cons] at hn
    have hk : k ∈ l := hm k (.head _)
    have hp := List.perm_cons_erase hk
    refine hp.trans ((perm_of_nodup hn.2 ?_ fun j hj => ?_).cons k)
    · rw [List.length_erase_of_mem hk, hl]; rfl
    · have hne : j ≠ k := fun q => hn.1 (q ▸ hj)
      rw [List.mem_erase_of_ne hne]; exact hm j (.tail _ hj)

theorem sort_perm {l m : List Str} (h : l.Perm m) (h3 : m.length < 3) (hn : (m.map nameKey).Nodup) : sortK nameKey l = sortK nameKey m := by
  by_cases h2 : m.length < 2
  · cases m with
    | nil => rw [h.eq_nil]
    | cons x m => cases m with
      | nil => rw [List.perm_singleton.mp h]
      | cons y m => exact absurd h2 (Nat.not_lt.mpr (Nat.le_add_left 2 m.length))
  · obtain ⟨x, y, rfl⟩ := len2 h2 h3
    have hk : nameKey x ≠ nameKey y := fun q => (List.nodup_cons.mp hn).1 (by rw [q]; exact List.mem_singleton.mpr rfl)
    obtain ⟨a, b, rfl⟩ := len2 (l := l) (by rw [h.length_eq]; exact h2) (by rw [h.length_eq]; exact h3)
    rcases List.mem_cons.mp (h.mem_iff.mp List.mem_cons_self) with rfl | ha
    · rw [List.perm_singleton.mp ((List.perm_cons _).mp h)]
    · cases List.mem_singleton.mp ha
      rw [List.perm_singleton.mp ((List.perm_cons _).mp (h.trans (.swap _ _ _)))]
      exact sort_swap (Ne.symm hk)

theorem s_sortedBy (Pk : PeOk pe cx) {A : Around} {s : Shared} {ρ : Nat → Addr} {E} (a1 : Ar (n + 1) A) {i : Nat} {ks : List Str} {fa : Addr} (hi : i < H.n) (e : H.f i = .set ks) (h64 : ks.length < 3) (hnd : (ks.map nameKey).Nodup) (hlen : ks.all (fun k => decide (k.length + 2 ≤ lim)) = true) (I : Inv cx ρ H s) (hL : LamAt s.heap fa) {Q : Value → Shared → Prop}
    (hQ : ∀ v s' ρ', Stp cx NoW ρ H s ρ' (H.alloc (.list ((sortK nameKey ks).map .str))) s' → Rep (H.n + 1) ρ' s'.heap v (.ref H.n) → Q v s') :
    wpAny cx.M A (call (.builtin "sorted") [.ref (ρ i)] [(Str.ofString "key", .ref fa)]) Q E s := by
  have hS : SetL cx.prog cx.w s.heap (ρ i) ks := by have := I.objs i hi; rw [e] at this; exact this
  obtain ⟨⟨⟨o, es, ep, t, ho, hex, hd, hel, hmem, hb, hf, hn⟩, o', es', ep', t', ho', hd', hld, hp, hsm⟩, hksn⟩ := hS
  rw [ho] at ho'; cases ho'
  rw [hd] at hd'; cases hd'
  refine call_function_entry_kw kind_sorted plain_sorted entry_sorted (ksk_s1 _ _) ?_
  unfold Builtin.«sorted»
  refine wpAny_bind (m := checkCount "sorted" 1 1 _) (wpAny_pure ?_)
  refine wpAny_bind (set_collect (a := ρ i) (es := es) (ep := ep) (t := t) a1.handled ⟨⟨o, ho, hex.1, hd⟩, hf⟩ hld hp hb fun wk s1 hpm hk1 hos hgs => ?_)
  have hkey : ∀ v ∈ wk, ∃ k, (PySem.strKind cx.prog cx.w).is k v = true := fun v hv => by
    obtain ⟨p, hp1, rfl⟩ := List.mem_map.mp (hpm.mem_iff.mp hv)
    obtain ⟨⟨k, hk, _⟩, _⟩ := hel p hp1
    exact ⟨k, hk⟩
  obtain ⟨xs, hxs⟩ := strsL_perm_keys hkey
  have hwl : wk.length = ks.length := by rw [hpm.length_eq]; simpa using hn
  have hxp : xs.Perm ks := by
    refine perm_of_nodup hksn (by rw [← hxs.length, hwl]) fun k hk => ?_
    rw [hxs.mem (prog := cx.prog) (w := cx.w)]
    obtain ⟨p, hp1, hp2⟩ := (hmem k).mp (by simpa using hk)
    exact ⟨p.2, hpm.mem_iff.mpr (List.mem_map_of_mem hp1), hp2⟩
  refine wpAny_bind (wpAny_newList ?_ (by rw [hwl, sizeLine_eq]; lia))
  refine wpAny_bind (wpAny_holding (wpAny_call_entry_kw slot_list_sort ⟨_, Heap.get?_push_size _ rfl, rfl⟩ entry_list_sort ?_ (ksk_l1 _ _)))
  show wpAny cx.M A.in1.in1 (Builtin.«list.sort» ⟨[.ref s1.heap.objs.size], [(Str.ofString "key", .ref fa)]⟩) _ _ _
  rw [ksk_t1]
  have hk2 : ∀ b o, s.heap.get? b = some o → (s1.heap.push { cls := .type "list", data := .seq wk.toArray }).get? b = some o := fun b o e => Heap.get?_push_of_some _ (hk1 b o e)
  have fr : ∀ b o, s.heap.get? b = some o → b ≠ s1.heap.objs.size := fun b o e => Nat.ne_of_lt (Heap.lt_size (hk1 b o e))
  have hfr : s.heap.get? s1.heap.objs.size = none := by
    cases e : s.heap.get? s1.heap.objs.size with
    | none => rfl
    | some o => exact absurd rfl (fr _ _ e)
  have hu := a1.units
  have hdp := a1.depth
  refine key_sort (s := { s1 with heap := s1.heap.push { cls := .type "list", data := .seq wk.toArray } }) (xs := xs) ?_ ?_ (Heap.get?_push_size _ rfl) hxs (fun x hx => ?_) (by rw [← hxs.length, hwl]; exact h64) ((hxp.map nameKey).nodup_iff.mpr hnd) (hL.keeps hk2) (fun h' hk' => ?_) fun s2 ws k2 hx ho2 hr hos2 hgs2 => ⟨_, rfl, wpAny_pure ⟨_, rfl, ?_⟩⟩
  · show A.units + 1 + 1 < cLine; simp only [cLine]; lia
  · show A.depth + 2 < 1000; lia
  · have := List.all_eq_true.mp hlen x (hxp.mem_iff.mp hx)
    simpa using this
  · exact Pk.noLimit.keeps fun b o e => hk' b o (fr b o (I.keep b o e)) (hk2 b o (I.keep b o e))
  · have hk3 : ∀ b o, s.heap.get? b = some o → s2.heap.get? b = some o := fun b o e => hx b o (fr b o e) (hk2 b o e)
    refine hQ _ _ (fun j => if j = H.n then s1.heap.objs.size else ρ j) (Stp.new _ I hfr (I.neX hk1) hk3 ⟨ws, k2, ho2, ?_⟩ (hos2.trans hos) ?_) rep_new
    · rw [← sort_perm hxp h64 hnd]; exact hr _ _ _
    · rw [hgs2]; show AllBare s1.gens; rw [hgs]; exact I.bare

theorem strsAre_rep {n : Nat} {ρ : Nat → Addr} {h : Heap} : ∀ {vs : List Value} {xs : List Str}, StrsAre vs xs → RepL n ρ h vs (xs.map .str)
  | _, _, .nil => .nil
  | _, _, .cons _ _ q => .cons (.str _ _) (strsAre_rep q)

theorem e_NsMap (Pk : PeOk pe cx) {fp mp ap ipos pos : Pos} {l : List (Str × Str)} (hap : ap.endLine = ipos.line) (hkf : sc.lookup ("list" : Str) = some .globalImplicit) (hkm : sc.lookup nsMapName = some .globalImplicit) (hl : pe.nsm = some l) (eH : H.alloc (.list (l.map fun p => .tup [.str p.1, .str p.2])) = H') :
    GE cx (n + 1) sc loc (.Call (.Name "list" fp) [.Call (.Attribute (.Name nsMapName mp) "items" ap) [] [] ipos] [] pos) H (.ref H.n) H' := by
  intro A env ρ s Q E C hQ
  subst eH
  obtain ⟨a1, a2, I, X⟩ := C
  obtain ⟨hgl, a, ps, hld, hsys, hz, hD, hn1, hn2⟩ := Pk.nsm hl
  have hlk : look pe sc loc "list" = some (.bf .list) := by
    unfold look
    rw [if_neg (by decide), hkf]; exact hgl
  have kg : env.kindOf nsMapName = some .globalImplicit := a2.kind' hkm (by decide)
  refine wpAny_Call_ofName (s_Name Pk hlk a2 I X fun fv rf => ?_)
  obtain rfl := rf.inv_bf
  have hD' : s.heap.DictOf (PySem.strKind cx.prog cx.w) a ps := let ⟨o, es, ep, ho, r⟩ := hD; ⟨o, es, ep, I.keep _ _ ho, r⟩
  obtain ⟨o, es, ep, ho, hex, hdd, hK, hP, hnd⟩ := id hD'
  have hT : s.TypeIs (.ref a) "dict" := hD'.typeIs
  have hnd' : ∀ b, Value.ref a = .ref b → ∃ o, s.heap.get? b = some o ∧ o.dict = none := fun b q => by cases q; exact ⟨_, ho, hex.2.1⟩
  refine s_callWith (evalArgs_kw2 rfl (Calls.spliced_cons ?_) rfl)
  rw [arm_eval_Call, base_of rfl]
  refine wpAny_bind (wpAny_Name ?_ (by decide))
  rw [loadName_read a2.kind kg]
  refine hld a2.globals a2.builtins I.keep ?_
  refine wpAny_bind (wpAny_standAt ?_)
  unfold methodCall
  rw [show methodCallForm (([] : List Expr).length + ([] : List Keyword).length) (backTo ipos (starEach [] env)) (backToKw ipos (keywordEach [] env)) = true from rfl]
  refine wpAny_bind (wpAny_holding ?_)
  show wpAny _ _ (getMethod (.ref a) "items" _) _ _ _
  refine getMethod_builtin hT F.plainAttrs_dict F.slot_dict_items F.type_dict_items hnd' ?_
  dsimp only
  refine wpAny_bind ?_
  rw [pos_of hap]
  refine wpAny_pure (s_callWith (evalArgs_kw2_nil rfl (kwAll_nil ⟨fun {A Q E} hQ => wpAny_pure (hQ _), ?_⟩)))
  refine call_meetsIn F.slot_dict_items hD'.typeIs F.entry_dict_items (F.args_dict_items_1 _) (meets_dict_items (PySem.strKind cx.prog cx.w) a hsys) ⟨⟨ps, hD'⟩, ?_⟩
  refine Calls.spliced_nil (kwAll_nil ⟨fun {A Q E} hQ => wpAny_pure (hQ _), ?_⟩)
  refine kdx_call (knd := PySem.strKind cx.prog cx.w) (d := a) (kvs := ps) (ep := ep) a1.handled ⟨_, Heap.get?_push_size _ rfl, rfl, rfl⟩ ⟨o, es, Heap.get?_push_of_some _ ho, hex, hdd, hK, hP, hnd⟩ (by rw [sizeLine_eq]; lia) fun h' tk acc c as hk hS hlen hG hacc => ?_
  have hk2 : ∀ b o, s.heap.get? b = some o → h'.get? b = some o := fun b o e => hk b o (Heap.get?_push_of_some _ e)
  have hsz : s.heap.objs.size < (s.heap.push { cls := .type "dict_items", data := .fields #[.ref a] }).objs.size := by rw [Heap.size_push]; lia
  refine hQ _ _ (fun j => if j = H.n then (s.heap.push { cls := .type "dict_items", data := .fields #[.ref a] }).objs.size else ρ j) (Stp.new _ I (Heap.get?_none_of_le (Nat.le_of_lt hsz)) (I.neX fun _ _ e => Heap.get?_push_of_some _ e) hk2 ⟨acc, c, hS, ?_⟩ rfl I.bare) rep_new
  rw [hacc]
  have := pairs_rep (n := H.n + 1) (ρ := fun j => if j = H.n then (s.heap.push { cls := .type "dict_items", data := .fields #[.ref a] }).objs.size else ρ j) (h := h') (prog := cx.prog) (w := cx.w) (lo := 0) (ps := ps) (kvs := l.map fun p => (p.1, V.str p.2)) (as := as) (by rw [hn1, List.map_map]; rfl) (by
    have := strsAre_rep (n := H.n + 1) (ρ := fun j => if j = H.n then (s.heap.push { cls := .type "dict_items", data := .fields #[.ref a] }).objs.size else ρ j) (h := h') hn2
    rw [List.map_map] at this ⊢; exact this) hlen fun j b hj => hG.pairs j b hj
  rw [List.map_map] at this
  exact this

theorem e_SortK (Pk : PeOk pe cx) {p fp np p1 p2 p3 p4 p5 lp kp : Pos} {f : Str} {x : Expr} {k1 k2 : Nat} {more : List (Str × Const)} {i : Nat} {ks : List Str} {a P : Addr} {q : Str} {H1 H2 : Hp} (hap : p2.endLine = p5.line) (hstar : isStar x = false) (hlk : look pe sc loc f = some (.bf .sorted)) (h1 : GE cx n sc loc x H (.ref i) H1)
    (hks : H1.f i = .set ks) (hl : pe.lam sc = some (a, P, q)) (h0 : 0 < H1.n) (hf : H1.f 0 = .tab P q) (c1 : ks.length < 3) (c2 : (ks.map nameKey).Nodup) (c3 : ks.all (fun k => decide (k.length + 2 ≤ lim)) = true) (e : H1.alloc (.list ((sortK nameKey ks).map .str)) = H2) :
    GE cx (n + 1) sc loc (.Call (.Name f fp) [x] [⟨some "key", .Lambda ⟨[], [⟨"n", none, np⟩], none, [], [], none, []⟩ (.Call (.Attribute (.Name "n" p1) "split" p2) [.Constant (.str brace) k1 p3, .Constant (.int 1) k2 p4] [] p5) ⟨.function, [("n", .local)], false, false, more⟩ lp, kp⟩] p) H (.ref H1.n) H2 := by
  intro A env ρ s Q E C hQ
  subst e
  refine wpAny_Call_ofName (s_Name Pk hlk C.en C.inv C.vars fun fv rf => ?_)
  cases rf.inv_bf
  refine s_callWith (evalArgs_kw2 rfl ((l_cons hstar h1 l_nil).2.2 (pos := p) C.low fun vs s1 ρ1 S1 r1 => ?_) (starEach_plain hstar))
  show wpAny _ _ (do let v ← (do let v ← eval (.Lambda _ _ _ lp) env; standAt p; pure v); return v :: (← holding [v] (evalAll []))) _ _ _
  refine wpAny_bind (wpAny_bind (s_lambda Pk C.en ⟨⟨_, _, _, _, _, _, _, _, _, rfl, rfl, rfl, hap⟩⟩ (by rw [← Pk.lam]; exact hl) h0 hf S1.inv fun fa s2 S2 L => wpAny_bind (wpAny_standAt (wpAny_pure (wpAny_bind (wpAny_holding (wpAny_pure (wpAny_pure ?_))))))))
  cases r1 with | cons r0 r1 =>
  cases r1
  obtain ⟨hi, rfl⟩ := r0.inv_ref
  refine ⟨fun {A Q E} hQ => wpAny_pure (hQ _), ?_⟩
  exact s_sortedBy Pk C.ar hi hks c1 c2 c3 S2.inv L fun v s3 ρ3 S3 r3 => hQ v s3 ρ3 ((S1.trans S2).trans S3) r3
end
end Mine
end
section
set_option maxRecDepth 100000
open PySem PySem.W PyProof.Rows PySem.SeqAt
namespace Mine
theorem lk_append : typeLookup (.type "list") "append" = pure (some (.builtin "list.append")) := by rw [typeLookup_type, builtinLookup_eq_fast]; kernel_rfl
theorem ty_append : typeOf (.builtin "list.append") = pure (.type "method_descriptor") := F.type_list_append
theorem md_get : typeLookup (.type "method_descriptor") "__get__" = pure (some (.builtin "method_descriptor.__get__")) := by rw [typeLookup_type, builtinLookup_eq_fast]; kernel_rfl
theorem md_set : typeLookup (.type "method_descriptor") "__set__" = pure none := by rw [typeLookup_type, builtinLookup_eq_fast]; kernel_rfl
theorem md_del : typeLookup (.type "method_descriptor") "__delete__" = pure none := by rw [typeLookup_type, builtinLookup_eq_fast]; kernel_rfl
theorem slot_md_get : Slot "method_descriptor" "__get__" "method_descriptor.__get__" :=
  .of (owner := "method_descriptor") (n := "__get__") (by rw [typeLookup_type, builtinLookup_eq_fast]; kernel_rfl) (by decide +kernel) (by decide +kernel) (by decide +kernel)
    (by first | exact .inl (by decide +kernel) | exact .inr (by decide +kernel)) (by rw [isSubtype_type]; kernel_rfl)
theorem entry_md_get : entryFor table "method_descriptor.__get__" = some Builtin.«method_descriptor.__get__» := entryFor_of_tree (by kernel_rfl)
theorem args_md_get (a b c : Value) : argsOk "method_descriptor.__get__" ⟨[a, b, c], []⟩ := by unfold argsOk; kernel_rfl
section
variable {prog : Program} {w : World} {A : Around} {E : Value → Shared → Prop} {h : Heap} {g : Array GenState} {d : Drawn} {t : Nat} {os : OsState} {a : Addr} {xs : Array Value} {k : Nat}
theorem append_get {R : Result → Shared → Prop} (hx : h.get? a = some { cls := .type "list", data := .seq xs k })
   (hq : R (.ok (.ret (.ref h.objs.size))) ⟨h.push { cls := .type "builtin_function_or_method", data := .fields #[.builtin "list.append", .ref a] }, g, d, t, os⟩) :
    codeAny (model prog w) A (.call (.builtin "method_descriptor.__get__") ⟨[.builtin "list.append", .ref a, .type "list"], []⟩) R ⟨h, g, d, t, os⟩ := by
  have hT : (⟨h, g, d, t, os⟩ : Shared).TypeIs (.ref a) "list" := ⟨_, hx, rfl⟩
  have hT5 : (⟨h, g, d, t, os⟩ : Shared).TypeIs (.builtin "list.append") "method_descriptor" := ty_append
  have hno : Manifest.toldItsClass.contains "list.append" = false := by decide +kernel
  refine codeAny_call_builtin slot_md_get.plain entry_md_get (slot_md_get.check _ _ _ _ _ _ _ _ hT5 (args_md_get _ _ _) ?_)
  have hown : (".".intercalate ("list.append".cutAt '.').dropLast) = "list" := by decide +kernel
  have hsub : isSubtype (.type "list") (.type (".".intercalate ("list.append".cutAt '.').dropLast)) = pure true := by rw [hown]; exact AutoSeq1.sub_list_list
  unfold Builtin.«method_descriptor.__get__»
  refine wpAny_bind (wpAny_pure ?_)
  have e1 : (if (Value.ref a == Value.none) = true then none else some (Value.ref a)) = some (Value.ref a) := rfl
  have e2 : (if (Value.type "list" == Value.none) = true then none else some (Value.type "list")) = some (Value.type "list") := rfl
  simp only [e1, e2, hno, Bool.false_eq_true, if_false]
  refine wpAny_bind ?_
  refine wpAny_bind (m := isInstance (.ref a) (.type (".".intercalate ("list.append".cutAt '.').dropLast))) (wpAny_isInstance hT hsub ?_)
  refine wpAny_pure ?_
  refine wpAny_bind ?_
  unfold newFields
  exact wpAny_newObj_type (wpAny_pure hq) (by size_fits)

theorem append_entry {tk : Tok} {Q : PySem.Fin → Shared → Prop} (hx : h.get? a = some { cls := .type "list", data := .seq xs k })
   (hq : Q (.done (.ret (.ref h.objs.size))) ⟨h.push { cls := .type "builtin_function_or_method", data := .fields #[.builtin "list.append", .ref a] }, g, d, t, os⟩) :
    wpAny (model prog w) A (Builtin.«object.__getattribute__» ⟨[.ref a, .str "append" tk], []⟩) Q E ⟨h, g, d, t, os⟩ := by
  have hT : (⟨h, g, d, t, os⟩ : Shared).TypeIs (.ref a) "list" := ⟨_, hx, rfl⟩
  have hT5 : (⟨h, g, d, t, os⟩ : Shared).TypeIs (.builtin "list.append") "method_descriptor" := ty_append
  have f4 := lk_append
  have f5 := ty_append
  have f6 := md_get
  have f7 := md_set
  have f8 := md_del
  repeat (any_goals (first | assumption | wp_step))
  refine append_get hx ?_
  exact wpAny_pure hq

theorem append_call {tk : Tok} {R : Result → Shared → Prop} (hx : h.get? a = some { cls := .type "list", data := .seq xs k })
   (hq : R (.ok (.ret (.ref h.objs.size))) ⟨h.push { cls := .type "builtin_function_or_method", data := .fields #[.builtin "list.append", .ref a] }, g, d, t, os⟩) :
    codeAny (model prog w) A (.call (.builtin "list.__getattribute__") ⟨[.ref a, .str "append" tk], []⟩) R ⟨h, g, d, t, os⟩ :=
  codeAny_call_builtin F.slot_list_getattribute.plain F.entry_list_ga (F.slot_list_getattribute.check _ _ _ _ _ _ _ _ (show (⟨h, g, d, t, os⟩ : Shared).TypeIs (.ref a) "list" from ⟨_, hx, rfl⟩) (F.args_list_getattribute_2 _ _) (append_entry hx hq))

theorem append_by {tk : Tok} {Q : Value → Shared → Prop} (hx : h.get? a = some { cls := .type "list", data := .seq xs k })
   (hq : Q (.ref h.objs.size) ⟨h.push { cls := .type "builtin_function_or_method", data := .fields #[.builtin "list.append", .ref a] }, g, d, t, os⟩) :
    wpAny (model prog w) A (getAttrBy (.ref a) (.str "append" tk) true true) Q E ⟨h, g, d, t, os⟩ := by
  have hT : (⟨h, g, d, t, os⟩ : Shared).TypeIs (.ref a) "list" := ⟨_, hx, rfl⟩
  have f2 := F.slot_list_getattribute.lookup
  have f3 := F.slot_list_getattribute.bind (.ref a)
  repeat (any_goals (first | assumption | wp_step))
  refine append_call hx ?_
  repeat (any_goals (first | assumption | wp_step))

theorem getAttr_append {s : Shared} {Q : Value → Shared → Prop} (hx : s.heap.get? a = some { cls := .type "list", data := .seq xs k })
   (hq : Q (.ref s.heap.objs.size) { s with heap := s.heap.push { cls := .type "builtin_function_or_method", data := .fields #[.builtin "list.append", .ref a] }, toks := s.toks + 1 }) :
    wpAny (model prog w) A (getAttr (.ref a) "append" true) Q E s := by
  unfold getAttr
  obtain ⟨h, g, d, t, os⟩ := s
  exact wpAny_bind (wpAny_mkText (append_by hx hq))
end

section
variable {pe : Pe} {cx : Cx} {n : Nat} {sc : Sc} {loc : Loc} {H H' : Hp} {x : V}

theorem s_getAttr (P : PeOk pe cx) {A : Around} {E : Value → Shared → Prop} {s : Shared} {ρ : Nat → Addr} {v x : V} {u : Value} {name : Str} {Q : Value → Shared → Prop} (h : fld pe H name v = some x) (I : Inv cx ρ H s) (ru : Rep H.n ρ s.heap u v)
    (hQ : ∀ u' s', Stp cx NoW ρ H s ρ H s' → Rep H.n ρ s'.heap u' x → Q u' s') : wpAny cx.M A (getAttr u name true) Q E s := by
  cases v with
  | ref i =>
    obtain ⟨hi, rfl⟩ := ru.inv_ref
    have h : fldR pe H name i (H.f i) = some x := h
    generalize e : H.f i = o at h
    cases o with
    | inst C d =>
      have h : fldN pe name i C (H.f d) = some x := h
      generalize ed : H.f d = o at h
      cases o with
      | ns kvs =>
        obtain ⟨m, hc, hx⟩ := Option.bind_eq_some_iff.mp h
        exact s_getInst P hi e ed hc hx I hQ
      | _ => first | exact noS h | exact noB h | cases h
    | _ => first | exact noS h | exact noB h | cases h
  | _ => first | exact noS h | exact noB h | cases h

theorem attr_eval {A : Around} {env : Env} {ρ : Nat → Addr} {s : Shared} {Q : Value → Shared → Prop} {E} {o : Expr} {name : Str} {pos : Pos} {H1 : Hp} {u : V} (hs : isSuper o = false) (h1 : GE cx n sc loc o H u H1) (C : Cn cx (n + 1) sc loc H A env ρ s)
    (h : ∀ u' s1 ρ1, Stp cx NoW ρ H s ρ1 H1 s1 → Rep H1.n ρ1 s1.heap u' u → wpAny cx.M A (getAttr u' name true) Q E s1) : wpAny cx.M A (eval (.Attribute o name pos) env) Q E s := by
  rw [arm_eval_Attribute, base_of hs]
  exact wpAny_bind (h1 C.low fun u' s1 ρ1 S1 r1 => wpAny_bind (wpAny_standAt (wpAny_bind (wpAny_holding (wpAny_mono (h u' s1 ρ1 S1 r1) (fun w s2 q => wpAny_bind (wpAny_letTemporaryGo (wpAny_pure q))) fun _ _ e => e)))))
theorem e_Attr (P : PeOk pe cx) {o : Expr} {name : Str} {pos : Pos} {H1 : Hp} {u : V} (hs : isSuper o = false) (h1 : GE cx n sc loc o H u H1) (h2 : fld pe H1 name u = some x) : GE cx (n + 1) sc loc (.Attribute o name pos) H x H1 := fun C hQ =>
  attr_eval hs h1 C fun _ _ _ S1 r1 => s_getAttr P h2 S1.inv r1 fun w s2 S2 r2 => hQ _ _ _ (S1.trans S2) r2
theorem e_AttrL {o : Expr} {pos : Pos} {H1 : Hp} {i : Nat} {xs : List V} (hs : isSuper o = false) (h1 : GE cx n sc loc o H (.ref i) H1) (h2 : H1.f i = .list xs) : GE cx (n + 1) sc loc (.Attribute o "append" pos) H (.bm .lAppend (.ref i)) H1 := fun C hQ =>
  attr_eval hs h1 C fun _ _ _ S1 r1 => by
    obtain ⟨hi, rfl⟩ := r1.inv_ref
    obtain ⟨vs, k, ho, q⟩ := S1.inv.list hi h2
    exact getAttr_append ho (hQ _ _ _ (S1.trans (Stp.grown _ S1.inv (fun _ _ e => Heap.get?_push_of_some _ e) rfl S1.inv.bare)) (.bm (p := .lAppend) rfl (Heap.get?_push_size _ rfl) (.ref i hi)))
end
end Mine
end
section
open PySem PySem.W PyProof.Rows PySem.SeqAt
namespace Mine
section
variable {pe : Pe} {cx : Cx} {n : Nat} {sc : Sc} {loc : Loc} {H H' : Hp} {x : V}

/-- an object made ahead becomes an abstract one -/
theorem Stp.adopt {ρ s ρ2 H2 s2 s3} (S : Stp cx NoW ρ H s ρ2 H2 s2) {a : Addr} {o : AObj} (hfr : s.heap.get? a = none) (hsy : a ≠ sysModules) (hno : ∀ i, i < H2.n → ρ2 i ≠ a) (hg : cx.g.get? a = none) (hnf : ∀ ob, s2.heap.get? a = some ob → ob.cls = .type "list" ∨ ob.cls = .type "dict") (hs : Heap.ExtBut a s2.heap s3.heap)
    (ho : RepO cx.prog cx.w (H2.n + 1) (fun j => if j = H2.n then a else ρ2 j) s3.heap a o) (hos : s3.os = s2.os) (hb : AllBare s3.gens) : Stp cx NoW ρ H s (fun j => if j = H2.n then a else ρ2 j) (H2.alloc o) s3 := by
  have agr : ∀ i, i < H2.n → (fun j => if j = H2.n then a else ρ2 j) i = ρ2 i := fun i hi => if_neg (Nat.ne_of_lt hi)
  have ns : ∀ i, i < H2.n + 1 → (if i = H2.n then a else ρ2 i) ≠ sysModules := fun i hi => by
    by_cases h : i = H2.n
    · rw [if_pos h]; exact hsy
    · rw [if_neg h]; exact S.inv.nsys i (Nat.lt_of_le_of_ne (Nat.le_of_lt_succ hi) h)
  have fro : ∀ b ob, s2.heap.get? b = some ob → b ≠ a → s3.heap.get? b = some ob := fun b ob e hb => hs b ob hb e
  have K : Kp H2.n ρ2 s2.heap (H2.n + 1) (fun j => if j = H2.n then a else ρ2 j) s3.heap → Stp cx NoW ρ H s (fun j => if j = H2.n then a else ρ2 j) (H2.alloc o) s3 := fun K => by
    refine ⟨⟨fun b o e => fro b o (S.inv.keep b o e) (fun q => by rw [q, hg] at e; cases e), hos.trans S.inv.os, hb, fun i hi => ?_, fun i j hi hj q => ?_, fun i hi => ?_, S.inv.st, ns⟩, Nat.le_trans S.le (Nat.le_succ _), fun i hi => (agr i (Nat.lt_of_lt_of_le hi S.le)).trans (S.agr i hi), fun i h1 h2 => ?_, fun b ob e hm hw => fro b ob (S.ext b ob e hm hw) (fun q => by rw [q, hfr] at e; cases e)⟩
    · show RepO _ _ (H2.n + 1) _ _ (if i = H2.n then a else ρ2 i) (if i = H2.n then o else H2.f i)
      by_cases h : i = H2.n
      · rw [if_pos h, if_pos h]; exact ho
      · rw [if_neg h, if_neg h]
        have hi' : i < H2.n := Nat.lt_of_le_of_ne (Nat.le_of_lt_succ hi) h
        obtain ⟨ob, e, _⟩ := (S.inv.objs i hi').some
        exact (S.inv.objs i hi').mono K ((fro _ _ e (hno i hi')).trans e.symm)
    · replace q : (if i = H2.n then a else ρ2 i) = (if j = H2.n then a else ρ2 j) := q
      by_cases h : i = H2.n <;> by_cases h' : j = H2.n
      · rw [h, h']
      · rw [if_pos h, if_neg h'] at q
        exact absurd q.symm (hno j (Nat.lt_of_le_of_ne (Nat.le_of_lt_succ hj) h'))
      · rw [if_neg h, if_pos h'] at q
        exact absurd q (hno i (Nat.lt_of_le_of_ne (Nat.le_of_lt_succ hi) h))
      · rw [if_neg h, if_neg h'] at q
        exact S.inv.inj i j (Nat.lt_of_le_of_ne (Nat.le_of_lt_succ hi) h) (Nat.lt_of_le_of_ne (Nat.le_of_lt_succ hj) h') q
    · show cx.g.get? (if i = H2.n then a else ρ2 i) = none
      by_cases h : i = H2.n
      · rw [if_pos h]; exact hg
      · rw [if_neg h]; exact S.inv.low i (Nat.lt_of_le_of_ne (Nat.le_of_lt_succ hi) h)
    · show s.heap.get? (if i = H2.n then a else ρ2 i) = none
      by_cases h : i = H2.n
      · rw [if_pos h]; exact hfr
      · rw [if_neg h]; exact S.fresh i h1 (Nat.lt_of_le_of_ne (Nat.le_of_lt_succ h2) h)
  refine K ⟨Nat.le_succ _, agr, fun b ob e hc => fro b ob e fun q => ?_⟩
  subst q
  rcases hnf ob e with h | h <;> have hc := hc.1 <;> rw [h] at hc <;> simp at hc

theorem e_List {es : List Expr} {pos : Pos} {xs : List V} {H1 H2 : Hp} (h1 : GL cx n sc loc es H xs H1) (hl : xs.length ≤ lim) (e : H1.alloc (.list xs) = H2) : GE cx (n + 1) sc loc (.List es pos) H (.ref H1.n) H2 := fun C hQ => by
  subst e
  rw [arm_eval_List]
  exact wpAny_bind (wpAny_standAt (wpAny_bind (h1.2.2 (pos := pos) C.low fun vs s1 ρ1 S1 r1 => s_newList S1.inv r1 hl fun v s2 ρ2 S2 r2 => hQ v s2 ρ2 (S1.trans S2) r2)))
theorem e_Tuple {es : List Expr} {b : Nat} {pos : Pos} {xs : List V} {H1 : Hp} (h1 : GL cx n sc loc es H xs H1) (hl : xs.length ≤ lim) : GE cx (n + 1) sc loc (.Tuple es b pos) H (.tup xs) H1 := fun C hQ => by
  rw [arm_eval_Tuple]
  exact wpAny_bind (wpAny_standAt (wpAny_bind (h1.2.2 (pos := pos) C.low fun vs s1 ρ1 S1 r1 => s_newTuple S1.inv r1 hl fun v s2 S2 r2 => hQ v s2 ρ1 (S1.trans S2) r2)))
theorem e_Dict0 {pos : Pos} {H1 : Hp} (e : H.alloc (.dict []) = H1) : GE cx (n + 1) sc loc (.Dict [] [] pos) H (.ref H.n) H1 := fun {A env ρ s Q E} C hQ => by
  subst e
  refine wpAny_Dict_empty (hQ _ _ (fun j => if j = H.n then s.heap.objs.size else ρ j) (Stp.new _ C.inv (get?_size _) C.inv.neS (fun _ _ e => Heap.get?_push_of_some _ e) ?_ rfl C.inv.bare) rep_new)
  exact ⟨[], ⟨_, #[], 0, Heap.get?_push_size _ rfl, ⟨rfl, rfl, rfl⟩, rfl, fun e he => (by simp at he), .nil, .nil⟩, rfl, .nil⟩
theorem e_Dict1 {k v : Expr} {pos : Pos} {ks : Str} {vu : V} {H1 H2 H3 : Hp} (h1 : GE cx n sc loc k H (.str ks) H1) (h2 : GE cx n sc loc v H1 vu H2) (e : H2.alloc (.dict [(ks, vu)]) = H3) : GE cx (n + 1) sc loc (.Dict [some k] [v] pos) H (.ref H2.n) H3 := fun {A env ρ s Q E} C hQ => by
  subst e
  have I := C.inv
  have e0 : s.heap.get? s.heap.objs.size = none := get?_size _
  have I0 : Stp cx NoW ρ H s ρ H { s with heap := s.heap.push { cls := .type "dict", data := .dict #[] } } := Stp.grown _ I (fun _ _ e => Heap.get?_push_of_some _ e) rfl I.bare
  have hD0 : (s.heap.push { cls := .type "dict", data := .dict #[] }).get? s.heap.objs.size = some { cls := .type "dict", data := .dict #[] } := Heap.get?_push_size _ rfl
  have hno0 : ∀ i, i < H.n → ρ i ≠ s.heap.objs.size := fun i hi => Nat.ne_of_lt (I.lt hi)
  refine wpAny_Dict_pairs (knd := PySem.strKind cx.prog cx.w) (pairs := [(eval k env, do let x ← eval v env; standAt pos; pure x)]) rfl (by simp) (by simp) ?_
  show wpAny _ _ (do let kv ← eval k env; let vv ← holding [kv] (do let x ← eval v env; standAt pos; pure x); return (kv, vv) :: (← holding [kv, vv] (evalPairs []))) _ _ _
  refine wpAny_bind (h1 (C.low.step I0) fun ku' s1 ρ1 S1 r1 => wpAny_bind (wpAny_holding (wpAny_bind (h2 ((C.low.step I0).step S1) fun vu' s2 ρ2 S2 r2 => wpAny_bind (wpAny_standAt (wpAny_pure (wpAny_bind (wpAny_holding (wpAny_pure (wpAny_pure ?_))))))))))
  obtain ⟨kt, rfl⟩ := r1.inv_str
  have S := (I0.trans S1).trans S2
  have hD1 := S1.ext _ _ hD0 hno0 (fun x => x)
  have no1 : ∀ i, i < H1.n → ρ1 i ≠ s.heap.objs.size := S1.old hD0 hno0
  have hD2 := S2.ext _ _ hD1 no1 (fun x => x)
  have no2 : ∀ i, i < H2.n → ρ2 i ≠ s.heap.objs.size := S2.old hD1 no1
  refine ⟨[(ks, vu')], ⟨strKind_is _ _ _ _, rfl, trivial⟩, ⟨_, #[], 0, hD2, ⟨rfl, rfl, rfl⟩, rfl, fun e he => by simp at he, .nil, .nil⟩, fun h' hd hs => ?_⟩
  have hg : cx.g.get? s.heap.objs.size = none := by
    cases e : cx.g.get? s.heap.objs.size with
    | none => rfl
    | some o => rw [I.keep _ _ e] at e0; cases e0
  refine hQ _ _ (fun j => if j = H2.n then s.heap.objs.size else ρ2 j) (S.adopt (s3 := { s2 with heap := h', toks := _ }) e0 I.neS no2 hg (fun ob e => by rw [hD2] at e; cases e; exact .inr rfl) hs.extBut ⟨[(ks, vu')], hd, rfl, ?_⟩ rfl S2.inv.bare) rep_new
  refine .cons (r2.mono ⟨Nat.le_succ _, fun i hi => if_neg (Nat.ne_of_lt hi), fun b o e hc => hs.extBut b o (fun q => ?_) e⟩) .nil
  rw [q, hD2] at e; cases e; have hc := hc.1; simp at hc

theorem look_rep (P : PeOk pe cx) {env : Env} {s : Shared} {ρ : Nat → Addr} {y : Str} {v : V} (h : look pe sc loc y = some v) (N : EnvOk cx env sc) (X : Vars cx env H.n ρ s.heap loc) : ∃ u, Rep H.n ρ s.heap u v := by
  unfold look at h
  split at h
  · cases h
  · generalize hk : sc.lookup y = k at h
    cases k with
    | none => cases h
    | some k =>
      cases k with
      | «local» =>
        obtain ⟨m, hn, hm⟩ := X.ns
        obtain ⟨u, _, r⟩ := hm y v h (N.kind' hk (by decide))
        exact ⟨u, r⟩
      | cell =>
        obtain ⟨c, u, _, _, r⟩ := X.cell y v h (.inl (N.kind' hk (by decide)))
        exact ⟨u, r⟩
      | free =>
        obtain ⟨c, u, _, _, r⟩ := X.cell y v h ((N.names y _ hk).elim .inr fun q => .inl q.2)
        exact ⟨u, r⟩
      | globalImplicit =>
        obtain ⟨u, r, _⟩ := P.glob h
        exact ⟨u, r _ _ _⟩
      | _ => first | exact noS h | exact noB h | cases h

theorem e_Set (P : PeOk pe cx) {a b : Str} {ap bp sp pos : Pos} {k0 : Str} {d : Nat} {kvs : List (Str × V)} {H1 : Hp} (ha : look pe sc loc a = some (.str k0)) (hb : look pe sc loc b = some (.ref d)) (hd : H.f d = .dict kvs) (hl : kvs.length ≤ 3) (e : H.alloc (.set (addAll [k0] (kvs.map (·.1)))) = H1) :
    GE cx (n + 1) sc loc (.Set [.Name a ap, .Starred (.Name b bp) sp] 0 pos) H (.ref H.n) H1 := fun {A env ρ s Q E} C hQ => by
  subst e
  obtain ⟨a1, a2, I, X⟩ := C
  have look1 : ∀ (s' : Shared), (∀ b o, s.heap.get? b = some o → s'.heap.get? b = some o) → s'.os = s.os → s'.gens = s.gens → Stp cx NoW ρ H s ρ H s' := fun s' hk h1 h2 => Stp.grown _ I hk h1 (by rw [h2]; exact I.bare)
  obtain ⟨u, ru⟩ := look_rep P hb a2 X
  obtain ⟨hi, rfl⟩ := ru.inv_ref
  obtain ⟨ps, hD, hn, q⟩ := I.dict hi hd
  have hz : ps.length = kvs.length := by have := congrArg List.length hn; simpa using this
  obtain ⟨cq, hcode⟩ := a2.code
  rw [arm_eval_Set]
  refine wpAny_bind (wpAny_standAt (wpAny_bind (s_main (h₀ := s.heap) (hcode.keeps I.keep) fun bb => ?_)))
  show wpAny _ _ (setDisplay .oneByOne bb [(false, do let v ← eval (.Name a ap) env; standAt pos; pure v), (true, do let v ← eval (.Name b bp) env; standAt pos; pure v)]) _ _ _
  refine s_display (d := ρ d) (kvs := ps) (k0 := k0) a1.handled (fun {s' Q'} hk h1 h2 hq => ?_) (fun {s' Q'} hk h1 h2 hq => ?_) hD (I.notSys P.sys hi) (by lia) fun h' tk hk hS => ?_
  · have S := look1 s' hk h1 h2
    refine wpAny_bind (s_Name P ha a2 S.inv (X.step I S) fun fv rf => wpAny_bind (wpAny_standAt (wpAny_pure ?_)))
    obtain ⟨t, rfl⟩ := rf.inv_str
    exact hq t
  · have S := look1 s' hk h1 h2
    refine wpAny_bind (s_Name P hb a2 S.inv (X.step I S) fun fv rf => wpAny_bind (wpAny_standAt (wpAny_pure ?_)))
    obtain ⟨_, rfl⟩ := rf.inv_ref
    exact hq
  · refine hQ _ _ (fun j => if j = H.n then s.heap.objs.size else ρ j) (Stp.new _ I (get?_size _) I.neS hk ?_ rfl I.bare) rep_new
    rw [hn] at hS
    exact hS
end
end Mine
end
section
open PySem PySem.W PyProof.Rows
namespace Mine
section
variable {pe : Pe} {cx : Cx} {n : Nat} {sc : Sc} {loc : Loc} {H H' : Hp} {x : V}

theorem under_tc (A : Around) (args : Args) : (A.under (.builtin "type.__call__" args)).handled = A.handled ∧ (A.under (.builtin "type.__call__" args)).depth ≤ A.depth + 2 ∧ (A.under (.builtin "type.__call__" args)).units ≤ A.units + 10 := by
  refine ⟨rfl, ?_, ?_⟩
  · show A.depth + _ ≤ _
    have : (Code.builtin "type.__call__" args).weight ≤ 2 := by
      unfold Code.weight
      have h1 : (Code.builtin "type.__call__" args).frames = 0 := by first | rfl | kernel_rfl
      have h2 : (Code.builtin "type.__call__" args).isGuard = false := by first | rfl | kernel_rfl
      have h3 : (Code.builtin "type.__call__" args).isCaller = false := by first | rfl | kernel_rfl
      rw [h1, h2, h3]
      split <;> simp
    lia
  · show A.units + _ ≤ _
    have : (Code.builtin "type.__call__" args).cUnits = 1 := by kernel_rfl
    lia
theorem ArF.tc {A : Around} (a : Ar (n + 1) A) (args : Args) : ArF n (A.under (.builtin "type.__call__" args)) := by
  obtain ⟨h1, h2, h3⟩ := under_tc A args
  exact ⟨h1.trans a.handled, by have := a.depth; lia, by have := a.units; lia⟩

theorem make_sound (P : PeOk pe cx) {C g : Addr} {args : List V} {kws : List (Str × V)} (hI : pe.init C = some g)
    (h : GRun cx n g (.ref (H.n + 1) :: args) kws ((H.alloc (.ns [])).alloc (.inst C H.n)) .none H')
    {A s ρ vs kvs} {Q : Value → Shared → Prop} {E} (a1 : Ar (n + 1) A) (I : Inv cx ρ H s) (ra : RepL H.n ρ s.heap vs args) (rk : RepK H.n ρ s.heap kvs kws)
    (hQ : ∀ v s' ρ', Stp cx NoW ρ H s ρ' H' s' → Rep H'.n ρ' s'.heap v (.ref (H.n + 1)) → Q v s') : wpAny cx.M A (call (.ref C) vs kvs) Q E s := by
  obtain ⟨hm, hf, ht⟩ := P.init hI
  have X := kin_at P I
  refine wpAny_call ?_
  obtain ⟨h0, g0, d, t, os⟩ := s
  refine make_core (makes_of X hm) (looks_findIn X hf) (fun self => bind_fn X self ht) (.inl rfl) ?_
  have S1 : Stp cx NoW ρ H ⟨h0, g0, d, t, os⟩ (fun j => if j = H.n then h0.objs.size else ρ j) (H.alloc (.ns [])) ⟨h0.push emptyDict, g0, d, t, os⟩ :=
    Stp.new _ I (get?_size _) I.neS (fun _ _ e => Heap.get?_push_of_some _ e) ⟨#[], _, Heap.get?_push_size _ rfl, by intro e he; simp at he, Nat.le_refl _, fun _ _ q => by simp at q, fun _ _ => rfl⟩ rfl I.bare
  have S2 := Stp.new NoW S1.inv (a := h0.objs.size + 1) (o := .inst C H.n) (s' := ⟨(h0.push emptyDict).push (instObj C h0.objs.size), g0, d, t, os⟩)
    (by have := get?_size (h0.push emptyDict); rwa [Heap.size_push] at this) (by have := S1.inv.neS; rwa [show (⟨h0.push emptyDict, g0, d, t, os⟩ : Shared).heap.objs.size = h0.objs.size + 1 from Heap.size_push ..] at this) (fun _ _ e => Heap.get?_push_of_some _ e)
    (by
      refine ⟨Nat.lt_succ_of_lt (Nat.lt_succ_self _), ?_⟩
      have h1 : (if H.n = (H.alloc (.ns [])).n then h0.objs.size + 1 else if H.n = H.n then h0.objs.size else ρ H.n) = h0.objs.size := by
        rw [if_neg (show ¬ H.n = (H.alloc (.ns [])).n from Nat.ne_of_lt (Nat.lt_succ_self H.n)), if_pos rfl]
      show Heap.get? _ _ = some { cls := Value.ref C, dict := some (if H.n = (H.alloc (.ns [])).n then h0.objs.size + 1 else if H.n = H.n then h0.objs.size else ρ H.n), data := .plain }
      rw [h1]
      have := Heap.get?_push_size (h0.push emptyDict) (o := instObj C h0.objs.size) rfl
      rwa [Heap.size_push] at this) rfl S1.inv.bare
  have S := S1.trans S2
  have hr : Rep (H.n + 1 + 1) (fun j => if j = (H.alloc (.ns [])).n then h0.objs.size + 1 else (fun j => if j = H.n then h0.objs.size else ρ j) j) ((h0.push emptyDict).push (instObj C h0.objs.size)) (.ref (h0.objs.size + 1)) (.ref (H.n + 1)) := by
    have := Rep.ref (n := H.n + 1 + 1) (ρ := fun j => if j = (H.alloc (.ns [])).n then h0.objs.size + 1 else (fun j => if j = H.n then h0.objs.size else ρ j) j) (h := (h0.push emptyDict).push (instObj C h0.objs.size)) (H.n + 1) (Nat.lt_succ_self _)
    rwa [show (if H.n + 1 = (H.alloc (.ns [])).n then h0.objs.size + 1 else (fun j => if j = H.n then h0.objs.size else ρ j) (H.n + 1)) = h0.objs.size + 1 from if_pos rfl] at this
  refine h (ArF.tc a1 _) S2.inv (.cons hr (S.repL I ra)) ⟨rk.names, S.repL I rk.vals⟩ fun v s' ρ' S' r' => ?_
  have := r'.inv_none
  exact ⟨this, hQ _ _ _ (S.trans S') (S'.rep S2.inv hr)⟩

theorem RepL.inv1 {n ρ h vs x} (r : RepL n ρ h vs [x]) : ∃ v, vs = [v] ∧ Rep n ρ h v x := by
  cases r with | cons a b => cases b; exact ⟨_, rfl, a⟩
theorem RepL.inv2 {n ρ h vs x y} (r : RepL n ρ h vs [x, y]) : ∃ v w, vs = [v, w] ∧ Rep n ρ h v x ∧ Rep n ρ h w y := by
  cases r with | cons a b => obtain ⟨w, rfl, c⟩ := b.inv1; exact ⟨_, _, rfl, a, c⟩
theorem RepL.inv0 {n ρ h vs} (r : RepL n ρ h vs []) : vs = [] := by cases r; rfl

theorem prim_direct (hg : HasSys cx) {p : Pm} {self : V} {args : List V} (h : Prm H p self args x H') {A s ρ w vs} {Q : Value → Shared → Prop} {E} (I : Inv cx ρ H s)
    (rw_ : Rep H.n ρ s.heap w self) (ra : RepL H.n ρ s.heap vs args) (hQ : ∀ v s' ρ', Stp cx NoW ρ H s ρ' H' s' → Rep H'.n ρ' s'.heap v x → Q v s') : wpAny cx.M A (call (.builtin p.id) (w :: vs)) Q E s := by
  cases h with
  | pv_append hf hl e =>
    subst e; obtain ⟨hi, rfl⟩ := rw_.inv_ref; obtain ⟨v, rfl, rv⟩ := ra.inv1
    exact p_append hi hf hl I rv fun s' S => hQ _ _ _ S .none
  | pv_pop hf hv hl e =>
    subst e; obtain ⟨hi, rfl⟩ := rw_.inv_ref; cases ra.inv0
    exact p_pop hi hf hv hl I fun v s' S rv => hQ _ _ _ S rv
  | pv_sort hf hy e =>
    subst e; obtain ⟨hi, rfl⟩ := rw_.inv_ref; cases ra.inv0
    exact p_sort hi hf hy I fun s' S => hQ _ _ _ S .none
  | pv_items hf =>
    obtain ⟨hi, rfl⟩ := rw_.inv_ref; cases ra.inv0
    exact p_items hg hi hf I fun v s' S r => hQ _ _ _ S r
  | pv_get hf =>
    obtain ⟨hi, rfl⟩ := rw_.inv_ref; obtain ⟨v, rfl, rv⟩ := ra.inv1; obtain ⟨t, rfl⟩ := rv.inv_str
    exact p_get hg hi hf I fun v s' S r => hQ _ _ _ S r
  | pv_sadd hf hl e =>
    subst e; obtain ⟨hi, rfl⟩ := rw_.inv_ref; obtain ⟨v, rfl, rv⟩ := ra.inv1; obtain ⟨t, rfl⟩ := rv.inv_str
    exact p_sadd hi hf hl I fun s' S => hQ _ _ _ S .none
  | pv_join hf hl hok =>
    obtain ⟨t, rfl⟩ := rw_.inv_str; obtain ⟨v, rfl, rv⟩ := ra.inv1; obtain ⟨hi, rfl⟩ := rv.inv_ref
    exact p_join hi hf hl hok I fun v s' S r => hQ _ _ _ S r
  | pv_split hc e =>
    subst e; obtain ⟨t, rfl⟩ := rw_.inv_str; obtain ⟨v, w, rfl, rv, rw2⟩ := ra.inv2; obtain ⟨t1, rfl⟩ := rv.inv_str; obtain ⟨t2, rfl⟩ := rw2.inv_int
    exact h_split hc.1 hc.2.1 hc.2.2 fun l tk e => new_strs I e hQ
  | pv_rsplit hc e =>
    subst e; obtain ⟨t, rfl⟩ := rw_.inv_str; obtain ⟨v, w, rfl, rv, rw2⟩ := ra.inv2; obtain ⟨t1, rfl⟩ := rv.inv_str; obtain ⟨t2, rfl⟩ := rw2.inv_int
    exact h_rsplit hc.1 hc.2.1 hc.2.2 fun l tk e => new_strs I e hQ
  | pv_strip hc =>
    obtain ⟨t, rfl⟩ := rw_.inv_str; cases ra.inv0
    exact SC.strip (fun t' k => hQ _ _ _ (Stp.toks _ I) (.str _ _)) (lim_eq ▸ hc)

theorem prim_bound {p : Pm} {self : V} {args : List V} (hp : p.obj = true) (h : Prm H p self args x H') {A s ρ a w vs} {Q : Value → Shared → Prop} {E} (I : Inv cx ρ H s)
    (ho : s.heap.get? a = some { cls := .type "builtin_function_or_method", data := .fields #[.builtin p.id, w] })
    (rw_ : Rep H.n ρ s.heap w self) (ra : RepL H.n ρ s.heap vs args) (hQ : ∀ v s' ρ', Stp cx NoW ρ H s ρ' H' s' → Rep H'.n ρ' s'.heap v x → Q v s') : wpAny cx.M A (call (.ref a) vs) Q E s := by
  cases h with
  | pv_append hf hl e =>
    subst e; obtain ⟨hi, rfl⟩ := rw_.inv_ref; obtain ⟨v, rfl, rv⟩ := ra.inv1
    exact bound_append ho hi hf hl I rv fun s' S => hQ _ _ _ S .none
  | pv_join hf hl hok =>
    obtain ⟨t, rfl⟩ := rw_.inv_str; obtain ⟨v, rfl, rv⟩ := ra.inv1; obtain ⟨hi, rfl⟩ := rv.inv_ref
    exact bound_join ho hi hf hl hok I fun v s' S r => hQ _ _ _ S r
  | _ => first | exact noS hp | exact noB hp | cases hp

theorem primF_sound (P : PeOk pe cx) {b : Bf} {args : List V} (h : PrF pe H b args x H') {A s ρ vs} {Q : Value → Shared → Prop} {E} (hh : A.handled = none) (I : Inv cx ρ H s)
    (ra : RepL H.n ρ s.heap vs args) (hQ : ∀ v s' ρ', Stp cx NoW ρ H s ρ' H' s' → Rep H'.n ρ' s'.heap v x → Q v s') : wpAny cx.M A (call b.val vs) Q E s := by
  cases h with
  | fv_lenL hl =>
    obtain ⟨v, rfl, rv⟩ := ra.inv1; cases rv.inv_fn
    obtain ⟨hlen, vs, hL, rv⟩ := P.lst hl
    have hz := size_of (rv H.n ρ s.heap)
    rw [List.length_map] at hz
    refine PySem.Calls.call_len_list (items := vs) (hL.at fun o e => I.keep _ o e) (by rw [hz]; lia) ?_
    rw [hz]; exact hQ _ _ _ (Stp.toks _ I) (.int _ _)
  | fv_len hf hl =>
    obtain ⟨v, rfl, rv⟩ := ra.inv1; obtain ⟨hi, rfl⟩ := rv.inv_ref
    exact f_len hi hf hl I fun v s' S r => hQ _ _ _ S r
  | fv_dict hf hl e =>
    subst e; obtain ⟨v, rfl, rv⟩ := ra.inv1; obtain ⟨hi, rfl⟩ := rv.inv_ref
    exact f_dict P.sys hi hf hl I fun v s' ρ' S r => hQ _ _ _ S r
  | fv_sum hf hy =>
    obtain ⟨v, rfl, rv⟩ := ra.inv1; obtain ⟨hi, rfl⟩ := rv.inv_ref
    exact f_sum hh hi hf hy I fun v s' S r => hQ _ _ _ S r
  | fv_set e => subst e; cases ra.inv0; exact f_set I hQ
  | fv_sorted hf hy e =>
    subst e; obtain ⟨v, rfl, rv⟩ := ra.inv1
    exact f_sorted hh hf hy I rv hQ

theorem RepK.nil {n ρ h kvs} (rk : RepK n ρ h kvs []) : kvs = [] := List.map_eq_nil_iff.mp rk.names
variable {args : List V} {kws : List (Str × V)} {f : Addr} {v : V}
theorem s_mt {y : V} (h : GRun cx n f (y :: args) kws H v H') : GCall cx (n + 1) (.mt f y) args kws H v H' := fun a1 I c ra rk hQ => by
  cases c with
  | obj rf =>
    obtain ⟨a, w, rfl, ho, rw1⟩ := rf.inv_mt
    exact wpAny_call (method_code ho (h a1.f I (.cons rw1 ra) rk hQ))
  | mt rw1 => exact wpAny_call (h a1.f I (.cons rw1 ra) rk hQ)
theorem s_fn (h : GRun cx n f args kws H v H') : GCall cx (n + 1) (.fn f) args kws H v H' := fun a1 I c ra rk hQ => by
  cases c with
  | obj rf => cases rf.inv_fn; exact wpAny_call (h a1.f I ra rk hQ)
theorem s_cls (P : PeOk pe cx) {g : Addr} (hI : pe.init f = some g) (h : GRun cx n g (.ref (H.n + 1) :: args) kws ((H.alloc (.ns [])).alloc (.inst f H.n)) .none H') : GCall cx (n + 1) (.fn f) args kws H (.ref (H.n + 1)) H' := fun a1 I c ra rk hQ => by
  cases c with
  | obj rf => cases rf.inv_fn; exact make_sound P hI h a1 I ra rk hQ
theorem s_bm (P : PeOk pe cx) {m : Pm} {y : V} (h : Prm H m y args v H') : GCall cx (n + 1) (.bm m y) args [] H v H' := fun a1 I c ra rk hQ => by
  cases rk.nil
  cases c with
  | obj rf =>
    obtain ⟨hp, a, w, rfl, ho, rw1⟩ := rf.inv_bm
    exact prim_bound hp h I ho rw1 ra hQ
  | bm rw1 => exact prim_direct P.sys h I rw1 ra hQ
theorem s_bf (P : PeOk pe cx) {m : Bf} (h : PrF pe H m args v H') : GCall cx (n + 1) (.bf m) args [] H v H' := fun a1 I c ra rk hQ => by
  cases rk.nil
  cases c with
  | obj rf => cases rf.inv_bf; exact primF_sound P h a1.handled I ra hQ
end
end Mine
end
section
open PySem PySem.W PyProof.Rows PySem.SeqAt
namespace Mine
section
variable {pe : Pe} {cx : Cx} {n : Nat} {sc : Sc} {loc : Loc} {H H' : Hp} {x : V}

/-- a place outside the abstract objects changes -/
theorem Stp.but {ρ : Nat → Addr} {s s' : Shared} (W : Addr → Prop) (I : Inv cx ρ H s) {a : Addr} (hW : W a) (ap : ∀ i, i < H.n → ρ i ≠ a) (hg : cx.g.get? a = none) (hnf : ∀ o, s.heap.get? a = some o → ¬ Fz o)
    (hx : Heap.ExtBut a s.heap s'.heap) (hos : s'.os = s.os) (hb : AllBare s'.gens) : Stp cx W ρ H s ρ H s' := by
  have K : Kp H.n ρ s.heap H.n ρ s'.heap := ⟨Nat.le_refl _, fun _ _ => rfl, fun b o e hc => hx b o (fun q => by subst q; exact hnf o e hc) e⟩
  refine ⟨⟨fun b o e => hx b o (fun q => by subst q; rw [hg] at e; cases e) (I.keep b o e), hos.trans I.os, hb, fun i hi => ?_, I.inj, I.low, I.st, I.nsys⟩, Nat.le_refl _, fun _ _ => rfl, fun i h1 h2 => absurd h2 (Nat.not_lt.mpr h1), fun b o e hm hw => hx b o (fun q => by subst q; exact hw hW) e⟩
  obtain ⟨ob, e, _⟩ := (I.objs i hi).some
  exact (I.objs i hi).mono K ((hx _ _ (ap i hi) e).trans e.symm)

theorem nf_ns {h : Heap} {a : Addr} {m} (x : h.Ns a m) : ∀ o, h.get? a = some o → ¬ Fz o := fun o e hz => by
  obtain ⟨o', es, ep, e', hd, _⟩ := x
  rw [e] at e'; cases e'
  rcases hz.2 with ⟨_, _, q⟩ | ⟨_, q⟩ <;> rw [hd] at q <;> cases q
theorem nf_cell {h : Heap} {a : Addr} {v} (x : h.IsCell a v) : ∀ o, h.get? a = some o → ¬ Fz o := fun o e hz => by
  obtain ⟨o', e', hd⟩ := x
  rw [e] at e'; cases e'
  rcases hz.2 with ⟨_, _, q⟩ | ⟨_, q⟩ <;> rw [hd] at q <;> cases q
theorem nf_cls {h : Heap} {a : Addr} {o' : Obj} {c : Value} (e' : h.get? a = some o') (hc : o'.cls = c) (hn : c ≠ .type "tuple" ∧ c ≠ .type "builtin_function_or_method" ∧ c ≠ .type "method" ∧ c ≠ .type "dict_items" ∧ c ≠ .type "code") : ∀ o, h.get? a = some o → ¬ Fz o := fun o e hz => by
  rw [e] at e'; cases e'
  rcases hz.1 with q | q | q | q | q <;> rw [hc] at q
  · exact hn.1 q
  · exact hn.2.1 q
  · exact hn.2.2.1 q
  · exact hn.2.2.2.1 q
  · exact hn.2.2.2.2 q

theorem Vars.nfW {env : Env} {ρ : Nat → Addr} {k : Nat} {h : Heap} (X : Vars cx env k ρ h loc) : ∀ a o, h.get? a = some o → Fz o → ¬ Wr env a := fun a o e hz w => by
  obtain ⟨m, hn, _⟩ := X.ns
  rcases w with rfl | ⟨y, w⟩
  · exact nf_ns hn o e hz
  · obtain ⟨⟨v, hv⟩, _⟩ := X.cells y a w
    exact nf_cell hv o e hz

theorem Vars.rep {env : Env} {ρ ρ' : Nat → Addr} {s s' : Shared} (I : Inv cx ρ H s) (X : Vars cx env H.n ρ s.heap loc) (S : Stp cx (Wr env) ρ H s ρ' H' s') {v y} (q : Rep H.n ρ s.heap v y) : Rep H'.n ρ' s'.heap v y :=
  q.mono (S.kp I X.nfW)
theorem Vars.repL {env : Env} {ρ ρ' : Nat → Addr} {s s' : Shared} (I : Inv cx ρ H s) (X : Vars cx env H.n ρ s.heap loc) (S : Stp cx (Wr env) ρ H s ρ' H' s') {v y} (q : RepL H.n ρ s.heap v y) : RepL H'.n ρ' s'.heap v y :=
  q.mono (S.kp I X.nfW)

theorem Vars.congr {env : Env} {ρ : Nat → Addr} {k : Nat} {h : Heap} {loc' : Loc} (X : Vars cx env k ρ h loc) (e : ∀ y v, loc'.lookup y = some v → loc.lookup y = some v) : Vars cx env k ρ h loc' := by
  obtain ⟨m, hn, hm⟩ := X.ns
  exact ⟨⟨m, hn, fun y v q => hm y v (e y v q)⟩, fun y v q => X.cell y v (e y v q), X.apL, X.apC, X.cells, X.has, X.dist, X.low⟩

theorem own_kind {env : Env} {y : Str} (h : own sc y = true) (N : EnvOk cx env sc) : env.kindOf y = some .local ∨ env.kindOf y = some .cell := by
  unfold own at h
  generalize e : sc.lookup y = k at h
  cases k with
  | none => cases h
  | some k =>
    cases k with
    | «local» => exact .inl (N.kind' e (by decide))
    | cell => exact .inr (N.kind' e (by decide))
    | _ => first | exact noS h | exact noB h | cases h

theorem s_store' {A : Around} {env : Env} {s : Shared} {ρ : Nat → Addr} {E} {y : Str} {u : Value} {v : V} {Q : Unit → Shared → Prop} {W : Addr → Prop} (hWl : W env.locals) (hWc : ∀ c, env.kindOf y = some .cell → env.cells.lookup y = some c → W c) (hk : env.kindOf y = some .local ∨ env.kindOf y = some .cell) (hf : env.scope.kind = .function) (I : Inv cx ρ H s) (X : Vars cx env H.n ρ s.heap loc)
    (q : Rep H.n ρ s.heap u v) (hQ : ∀ s', Stp cx W ρ H s ρ H s' → Stp cx (Wr env) ρ H s ρ H s' → Vars cx env H.n ρ s'.heap (setL loc y v) → Q () s') : wpAny cx.M A (storeName env y u) Q E s := by
  obtain ⟨m, hn, hm⟩ := X.ns
  rcases hk with hk | hk
  · refine wpAny_storeName_local hk hn (fun h' hn' hs' => ?_) (by rw [hf]; rfl)
    have S : Stp cx (Wr env) ρ H s ρ H { s with heap := h', toks := s.toks + 1 } := Stp.but _ I (.inl rfl) X.apL X.low (nf_ns hn) hs'.extBut rfl I.bare
    refine hQ _ (Stp.but _ I hWl X.apL X.low (nf_ns hn) hs'.extBut rfl I.bare) S ⟨⟨_, hn', fun z w e k => ?_⟩, fun z w e k => ?_, X.apL, X.apC, fun z c e => ?_, X.has, X.dist, X.low⟩
    · rw [lookup_setL] at e
      by_cases hz : z = y
      · rw [if_pos hz] at e; cases e
        exact ⟨u, if_pos hz, X.rep I S q⟩
      · rw [if_neg hz] at e
        obtain ⟨u', h1, h2⟩ := hm z w e k
        exact ⟨u', by rw [if_neg hz]; exact h1, X.rep I S h2⟩
    · rw [lookup_setL] at e
      by_cases hz : z = y
      · subst hz; rw [hk] at k; rcases k with k | k <;> cases k
      · rw [if_neg hz] at e
        obtain ⟨c, u', h1, h2, h3⟩ := X.cell z w e k
        exact ⟨c, u', h1, h2.sameBut hs' (X.cells z c h1).2.1, X.rep I S h3⟩
    · obtain ⟨⟨v', hv⟩, h1, h2⟩ := X.cells z c e
      exact ⟨⟨v', hv.sameBut hs' h1⟩, h1, h2⟩
  · obtain ⟨c, hc⟩ := X.has y hk
    obtain ⟨⟨v0, hv⟩, hne, hg⟩ := X.cells y c hc
    refine wpAny_storeName_cell hf hk hc hv fun h' hc' hs' => ?_
    have S : Stp cx (Wr env) ρ H s ρ H { s with heap := h' } := Stp.but _ I (.inr ⟨y, hc⟩) (X.apC y c hc) hg (nf_cell hv) hs'.extBut rfl I.bare
    refine hQ _ (Stp.but _ I (hWc c hk hc) (X.apC y c hc) hg (nf_cell hv) hs'.extBut rfl I.bare) S ⟨⟨_, hn.sameBut hs' (Ne.symm hne), fun z w e k => ?_⟩, fun z w e k => ?_, X.apL, X.apC, fun z c' e => ?_, X.has, X.dist, X.low⟩
    · rw [lookup_setL] at e
      by_cases hz : z = y
      · subst hz; rw [hk] at k; cases k
      · rw [if_neg hz] at e
        obtain ⟨u', h1, h2⟩ := hm z w e k
        exact ⟨u', h1, X.rep I S h2⟩
    · rw [lookup_setL] at e
      by_cases hz : z = y
      · rw [if_pos hz] at e; cases e
        subst hz
        exact ⟨c, u, hc, hc', X.rep I S q⟩
      · rw [if_neg hz] at e
        obtain ⟨c', u', h1, h2, h3⟩ := X.cell z w e k
        exact ⟨c', u', h1, h2.sameBut hs' (fun q => hz (X.dist z y c (by rw [← q]; exact h1) hc)), X.rep I S h3⟩
    · obtain ⟨⟨v', hv'⟩, h1, h2⟩ := X.cells z c' e
      by_cases hz : c' = c
      · subst hz; exact ⟨⟨_, hc'⟩, h1, h2⟩
      · exact ⟨⟨v', hv'.sameBut hs' hz⟩, h1, h2⟩

/-- what a store may write to -/
structure WrOk (sc : Sc) (env : Env) (W : Addr → Prop) : Prop where
  l : W env.locals
  c : ∀ y c, own sc y = true → env.kindOf y = some .cell → env.cells.lookup y = some c → W c
theorem WrOk.wr (sc : Sc) (env : Env) : WrOk sc env (Wr env) := ⟨.inl rfl, fun y _ _ _ e => .inr ⟨y, e⟩⟩

theorem s_store {A : Around} {env : Env} {s : Shared} {ρ : Nat → Addr} {E} {y : Str} {u : Value} {v : V} {Q : Unit → Shared → Prop} {W : Addr → Prop} (w : WrOk sc env W) (ho : own sc y = true) (N : EnvOk cx env sc) (I : Inv cx ρ H s) (X : Vars cx env H.n ρ s.heap loc)
    (q : Rep H.n ρ s.heap u v) (hQ : ∀ s', Stp cx W ρ H s ρ H s' → Stp cx (Wr env) ρ H s ρ H s' → Vars cx env H.n ρ s'.heap (setL loc y v) → Q () s') : wpAny cx.M A (storeName env y u) Q E s :=
  s_store' w.l (fun c => w.c y c ho) (own_kind ho N) N.kind I X q hQ

/-- a further step that writes to this frame alone makes no new objects -/
theorem Stp.thenW {ρ ρ' : Nat → Addr} {s s' s'' : Shared} {W : Addr → Prop} (S : Stp cx W ρ H s ρ' H' s') (T : Stp cx W ρ' H' s' ρ' H' s'') : Stp cx W ρ H s ρ' H' s'' :=
  S.transW T fun i h1 h2 => absurd h2 (Nat.not_lt.mpr h1)

theorem isName_eq {t : Expr} {id : Str} (h : isName t = some id) : ∃ p, t = .Name id p := by
  cases t with
  | Name i p => cases h; exact ⟨p, rfl⟩
  | _ => first | exact noS h | exact noB h | cases h
theorem bindTs_cons {t : Expr} {ts : List Expr} {xs : List V} {loc loc' : Loc} (h : bindTs sc (t :: ts) xs loc = some loc') : ∃ id p y ys, t = .Name id p ∧ xs = y :: ys ∧ own sc id = true ∧ bindTs sc ts ys (setL loc id y) = some loc' := by
  cases xs with
  | nil => cases h
  | cons y ys =>
    obtain ⟨id, e, h'⟩ := Option.bind_eq_some_iff.mp h
    obtain ⟨p, rfl⟩ := isName_eq e
    by_cases ho : own sc id = true
    · rw [if_pos ho] at h'; exact ⟨_, _, _, _, rfl, rfl, ho, h'⟩
    · rw [if_neg ho] at h'; cases h'
theorem bindTs_nil {xs : List V} {loc loc' : Loc} (h : bindTs sc [] xs loc = some loc') : xs = [] ∧ loc' = loc := by
  cases xs with
  | nil => cases h; exact ⟨rfl, rfl⟩
  | cons y ys => cases h

theorem bindTs_sound {A : Around} {env : Env} {ρ : Nat → Addr} {E} {W : Addr → Prop} (w : WrOk sc env W) (N : EnvOk cx env sc) {ts : List Expr} : ∀ {xs : List V} {us : List Value} {loc loc' : Loc} {s : Shared} {Q : Unit → Shared → Prop}, bindTs sc ts xs loc = some loc' → Inv cx ρ H s → Vars cx env H.n ρ s.heap loc → RepL H.n ρ s.heap us xs →
    (∀ s', Stp cx W ρ H s ρ H s' → Stp cx (Wr env) ρ H s ρ H s' → Vars cx env H.n ρ s'.heap loc' → Q () s') → wpAny cx.M A (assignInOrder ((assignEach ts env).map (·.2)) us) Q E s := by
  induction ts with
  | nil =>
    intro xs us loc loc' s Q h I X q hQ
    obtain ⟨rfl, rfl⟩ := bindTs_nil h
    rw [arm_assignEach_nil]
    exact wpAny_pure (hQ s (Stp.refl _ I) (Stp.refl _ I) X)
  | cons t ts ih =>
    intro xs us loc loc' s Q h I X q hQ
    obtain ⟨id, p, y, ys, rfl, rfl, ho, h⟩ := bindTs_cons h
    cases q with
    | cons q1 q2 =>
      have e : (assignEach (.Name id p :: ts) env).map (·.2) = assign (.Name id p) env :: (assignEach ts env).map (·.2) := rfl
      rw [e]
      refine wpAny_bind (wpAny_holding (wpAny_assign_Name (s_store w ho N I X q1 fun s1 S1 Z1 X1 => ?_)))
      exact ih h S1.inv X1 (X.repL I Z1 q2) fun s2 S2 Z2 X2 => hQ s2 (S1.thenW S2) (Z1.thenW Z2) X2

theorem bindTs_names {env : Env} {ts : List Expr} : ∀ {xs : List V} {loc loc' : Loc}, bindTs sc ts xs loc = some loc' → (assignEach ts env).length = xs.length ∧ (assignEach ts env).findIdx? (·.1) = none := by
  induction ts with
  | nil =>
    intro xs loc loc' h
    obtain ⟨rfl, rfl⟩ := bindTs_nil h
    exact ⟨rfl, rfl⟩
  | cons t ts ih =>
    intro xs loc loc' h
    obtain ⟨id, p, y, ys, rfl, rfl, ho, h⟩ := bindTs_cons h
    obtain ⟨h1, h2⟩ := ih h
    have e : assignEach (.Name id p :: ts) env = (false, assign (.Name id p) env) :: assignEach ts env := rfl
    rw [e]
    exact ⟨congrArg (· + 1) h1, by rw [List.findIdx?_cons, if_neg Bool.false_ne_true, h2]; rfl⟩

theorem h_draw_list {A : Around} {E} {it t : Addr} {items : Array Value} (hne : t ≠ it) : ∀ (n i : Nat) (s : Shared) (Q : List Value → Shared → Prop), s.heap.IsListIter it t i → s.heap.IsList t items → i + n ≤ items.size →
    (∀ h', h'.IsListIter it t (i + n) → Heap.SameBut it s.heap h' → Q ((items.toList.drop i).take n) { s with heap := h' }) → wpAny cx.M A (draw (.ref it) n) Q E s
  | 0, i, s, Q, hit, _, _, hQ => by
    show wpAny _ _ (pure []) Q E s
    exact wpAny_pure (by simpa using hQ s.heap hit (Heap.SameBut.refl ..))
  | n + 1, i, s, Q, hit, ht, hle, hQ => by
    have hlt : i < items.size := by lia
    show wpAny _ _ (pyNext (.ref it) >>= _) Q E s
    refine wpAny_bind (wpAny_pyNext_list_item hit ht (x := items[i]) (by simp [hlt]) fun h₁ hit₁ hs₁ => ?_)
    refine wpAny_bind (wpAny_holding (h_draw_list hne n (i + 1) _ _ hit₁ (ht.extBut hs₁.extBut hne) (by lia) fun h₂ hit₂ hs₂ => wpAny_pure ?_))
    have hd : items.toList.drop i = items[i] :: items.toList.drop (i + 1) := by simp [List.drop_eq_getElem_cons, hlt]
    have := hQ h₂ (by rw [show i + (n + 1) = i + 1 + n by lia]; exact hit₂) (hs₁.trans hs₂)
    rw [hd, List.take_succ_cons] at this
    exact this

theorem h_unpack_list {A : Around} {E} {s : Shared} {t : Addr} {items : Array Value} {Q : List Value → Shared → Prop} (hh : A.handled = none) (ht : s.heap.IsList t items)
    (hQ : ∀ h', Heap.ExtBut s.heap.objs.size s.heap h' → Q items.toList { s with heap := h' }) : wpAny cx.M A (unpackItems (.ref t) items.size none) Q E s := by
  have hlt : t ≠ s.heap.objs.size := by obtain ⟨o, ho, _⟩ := ht; exact Nat.ne_of_lt (Heap.lt_size ho)
  unfold unpackItems
  refine wpAny_bind ?_
  · unfold notIterableAtAll
    refine wpAny_bind (wpAny_specialOf ht.typeIs slot_list_iter.lookup ?_)
    refine wpAny_pure ?_
    simp only [Bool.false_eq_true, if_false]
    refine wpAny_bind (wpAny_holding (wpAny_pyIter_list ht ?_))
    refine wpAny_bind (wpAny_holding (h_draw_list hlt items.size 0 _ _ ⟨_, Heap.get?_push_size _ rfl, rfl, rfl⟩ (ht.push _) (by lia) fun h₁ hit₁ hs₁ => ?_))
    have hall : List.take items.size (List.drop 0 items.toList) = items.toList := by
      rw [List.drop_zero]; exact List.take_of_length_le (by simp)
    rw [hall]
    rw [if_neg (by simp)]
    have ht₁ : h₁.IsList t items := (ht.push _).extBut hs₁.extBut hlt
    refine wpAny_bind (wpAny_holding (wpAny_pyNext_list_end hh hit₁ ht₁ (by simp) fun h₂ he₂ => ?_))
    simp only [Option.isSome_none, Bool.false_eq_true, if_false]
    refine wpAny_pure (hQ h₂ fun b o hb e => he₂ b o hb (hs₁.extBut b o hb (Heap.get?_push_of_some _ e)))

theorem unp_sound {A : Around} {E} {s : Shared} {ρ : Nat → Addr} {v : V} {xs : List V} {u : Value} {Q : List Value → Shared → Prop} (hh : A.handled = none) (h : unp H v = some xs) (I : Inv cx ρ H s) (q : Rep H.n ρ s.heap u v)
    (hQ : ∀ us s', Stp cx NoW ρ H s ρ H s' → RepL H.n ρ s'.heap us xs → Q us s') : wpAny cx.M A (unpackItems u xs.length none) Q E s := by
  have go : ∀ {items : Array Value} {h'}, RepL H.n ρ s.heap items.toList xs → Heap.ExtBut s.heap.objs.size s.heap h' → Q items.toList { s with heap := h' } := fun {items h'} r e => by
    have S : Stp cx NoW ρ H s ρ H { s with heap := h' } := Stp.grown _ I (fun a o q => e a o (Nat.ne_of_lt (Heap.lt_size q)) q) rfl I.bare
    exact hQ _ _ S (S.repL I r)
  cases v with
  | tup ys =>
    cases h
    obtain ⟨a, vs, k, rfl, e, r⟩ := q.inv_tup
    rw [← size_of r]
    exact wpAny_unpackItems_tuple hh (isTuple_of e) fun h' e => go r e
  | ref i =>
    obtain ⟨hi, rfl⟩ := q.inv_ref
    have h : unpO (H.f i) = some xs := h
    generalize hf : H.f i = o at h
    cases o with
    | list ys =>
      cases h
      obtain ⟨vs, k, e, r⟩ := I.list hi hf
      rw [← size_of r]
      exact h_unpack_list hh (isList_of e) fun h' e => go r e
    | _ => first | exact noS h | exact noB h | cases h
  | _ => first | exact noS h | exact noB h | cases h

theorem bindT_sound {A : Around} {env : Env} {ρ : Nat → Addr} {E} {W : Addr → Prop} (w : WrOk sc env W) {t : Expr} {v : V} {u : Value} {loc' : Loc} {s : Shared} {Q : Unit → Shared → Prop} (hh : A.handled = none) (N : EnvOk cx env sc) (h : bindT sc H t v loc = some loc') (I : Inv cx ρ H s) (X : Vars cx env H.n ρ s.heap loc)
    (q : Rep H.n ρ s.heap u v) (hQ : ∀ s', Stp cx W ρ H s ρ H s' → Stp cx (Wr env) ρ H s ρ H s' → Vars cx env H.n ρ s'.heap loc' → Q () s') : wpAny cx.M A (assign t env u) Q E s := by
  cases t with
  | Name id p =>
    obtain ⟨ho, rfl⟩ := ite_some h
    exact wpAny_assign_Name (s_store w ho N I X q hQ)
  | Tuple ts a p =>
    obtain ⟨xs, hx, h⟩ := Option.bind_eq_some_iff.mp h
    obtain ⟨h1, h2⟩ := bindTs_names (env := env) h
    rw [arm_assign_Tuple]
    refine wpAny_bind (wpAny_standAt ?_)
    unfold unpack
    rw [h1, h2]
    refine wpAny_bind (wpAny_holding (unp_sound hh hx I q fun us s1 S1 r1 => ?_))
    exact bindTs_sound w N h S1.inv (X.step I S1) r1 fun s2 S2 Z2 X2 => hQ s2 ((S1.weaken fun _ f => f.elim).thenW S2) ((S1.weaken fun _ f => f.elim).thenW Z2) X2
  | _ => first | exact noS h | exact noB h | cases h
end
end Mine
end
section
open PySem PySem.W PyProof.Rows PySem.SeqAt
namespace Mine
section
variable {pe : Pe} {cx : Cx} {n : Nat} {sc : Sc} {loc : Loc} {H H' : Hp} {x : V}

/-- the iterator at a over v stands at place k -/
inductive ItAt (n : Nat) (ρ : Nat → Addr) (h : Heap) (a : Addr) (k : Nat) : V → Prop
  | list {i : Nat} : i < n → h.IsListIter a (ρ i) k → ItAt n ρ h a k (.ref i)
  | tup {t : Addr} {vs : Array Value} {kk : Nat} {xs : List V} : h.get? t = some { cls := .type "tuple", data := .seq vs kk } → RepL n ρ h vs.toList xs → h.IsTupleIter a t k → ItAt n ρ h a k (.tup xs)

theorem ItAt.mono {n ρ h n' ρ' h' a k v} (K : Kp n ρ h n' ρ' h') (x : ItAt n ρ h a k v) (e : ∀ o, h.get? a = some o → h'.get? a = some o) : ItAt n' ρ' h' a k v := by
  cases x with
  | list hi it => exact .list (Nat.lt_of_lt_of_le hi K.le) (by rw [K.agr _ hi]; obtain ⟨o, h1, h2⟩ := it; exact ⟨o, e o h1, h2⟩)
  | tup e1 q it => exact .tup (K.fro _ _ e1 ⟨.inl rfl, .inl ⟨_, _, rfl⟩⟩) (q.mono K) (by obtain ⟨o, h1, h2⟩ := it; exact ⟨o, e o h1, h2⟩)

theorem ItAt.obj {n ρ h a k v} (x : ItAt n ρ h a k v) : ∃ o c vs, h.get? a = some o ∧ o.cls = .type c ∧ o.data = .fields vs ∧ ["enumerate", "zip", "dict_itemiterator", "dict_reverseitemiterator", "odict_iterator", "itertools.zip_longest", "itertools.pairwise"].contains c = false ∧ ¬ Fz o := by
  cases x with
  | list hi it =>
    obtain ⟨o, h1, h2, h3⟩ := it
    exact ⟨o, _, _, h1, h2, h3, by decide, nf_cls h1 h2 ⟨by simp, by simp, by simp, by simp, by simp⟩ o h1⟩
  | tup e1 q it =>
    obtain ⟨o, h1, h2, h3⟩ := it
    exact ⟨o, _, _, h1, h2, h3, by decide, nf_cls h1 h2 ⟨by simp, by simp, by simp, by simp, by simp⟩ o h1⟩

/-- what is walked: a list or a tuple -/
theorem items_cases {v : V} {its : List V × Option Nat} (h : items H v = some its) : (∃ i xs, v = .ref i ∧ H.f i = .list xs ∧ its = (xs, some i)) ∨ ∃ xs, v = .tup xs ∧ its = (xs, none) := by
  cases v with
  | ref i =>
    have h : itemsO i (H.f i) = some its := h
    generalize hf : H.f i = o at h
    cases o with
    | list xs => cases h; exact .inl ⟨_, _, rfl, hf, rfl⟩
    | _ => first | exact noS h | exact noB h | cases h
  | tup xs => cases h; exact .inr ⟨_, rfl, rfl⟩
  | _ => first | exact noS h | exact noB h | cases h
theorem items_stands {v : V} {xs : List V} {src : Option Nat} {H1 : Hp} (h : items H v = some (xs, src)) (st : stands H H1 src) : items H1 v = some (xs, src) := by
  rcases items_cases h with ⟨i, ys, rfl, hf, e⟩ | ⟨ys, rfl, e⟩
  · cases e
    show itemsO i (H1.f i) = _
    rw [show H1.f i = H.f i from st, hf]; rfl
  · cases e; rfl

theorem it_start {A : Around} {E} {s : Shared} {ρ : Nat → Addr} {v : V} {its : List V × Option Nat} {u : Value} {Q : Value → Shared → Prop} (h : items H v = some its) (I : Inv cx ρ H s) (q : Rep H.n ρ s.heap u v)
    (hQ : ∀ a s', s.heap.get? a = none → Stp cx NoW ρ H s ρ H s' → ItAt H.n ρ s'.heap a 0 v → Q (.ref a) s') : wpAny cx.M A (pyIter u) Q E s := by
  have hp : ∀ o : Obj, Stp cx NoW ρ H s ρ H { s with heap := s.heap.push o } := fun o => Stp.grown _ I (fun _ _ e => Heap.get?_push_of_some _ e) rfl I.bare
  rcases items_cases h with ⟨i, ys, rfl, hf, e⟩ | ⟨ys, rfl, e⟩
  · obtain ⟨hi, rfl⟩ := q.inv_ref
    obtain ⟨vs, k, e, r⟩ := I.list hi hf
    exact wpAny_pyIter_list (isList_of e) (hQ _ _ (get?_size _) (hp _) (.list hi ⟨_, Heap.get?_push_size _ rfl, rfl, rfl⟩))
  · obtain ⟨a, vs, k, rfl, e, r⟩ := q.inv_tup
    exact wpAny_pyIter_tuple (isTuple_of e) (hQ _ _ (get?_size _) (hp _) (.tup (Heap.get?_push_of_some _ e) ((hp _).repL I r) ⟨_, Heap.get?_push_size _ rfl, rfl, rfl⟩))

/-- a place outside the abstract objects and the frame -/
structure Out (cx : Cx) (env : Env) (n : Nat) (ρ : Nat → Addr) (h : Heap) (a : Addr) : Prop where
  al : ∃ o, h.get? a = some o ∧ ¬ Fz o
  ap : ∀ i, i < n → ρ i ≠ a
  nw : ¬ Wr env a
  low : cx.g.get? a = none

theorem Out.step {env : Env} {ρ ρ' : Nat → Addr} {s s' : Shared} {W : Addr → Prop} {a : Addr} (O : Out cx env H.n ρ s.heap a) (S : Stp cx W ρ H s ρ' H' s') (hw : ¬ W a) : Out cx env H'.n ρ' s'.heap a := by
  obtain ⟨o, e, hz⟩ := O.al
  exact ⟨⟨o, S.ext a o e O.ap hw, hz⟩, S.old e O.ap, O.nw, O.low⟩
theorem Out.nf {env : Env} {ρ : Nat → Addr} {n : Nat} {h : Heap} {a : Addr} (O : Out cx env n ρ h a) : ∀ o, h.get? a = some o → ¬ Fz o := fun o e => by
  obtain ⟨o', e', hz⟩ := O.al
  rw [e] at e'; cases e'; exact hz

abbrev WL (env : Env) (as : List Addr) : Addr → Prop := fun b => Wr env b ∨ b ∈ as

theorem it_next {A : Around} {env : Env} {E} {s : Shared} {ρ : Nat → Addr} {v y : V} {its : List V × Option Nat} {k : Nat} {a : Addr} {Q : Option Value → Shared → Prop} (h : items H v = some its) (hk : its.1[k]? = some y) (I : Inv cx ρ H s) (t : ItAt H.n ρ s.heap a k v) (O : Out cx env H.n ρ s.heap a)
    (hQ : ∀ u s', Stp cx (· = a) ρ H s ρ H s' → Out cx env H.n ρ s'.heap a → ItAt H.n ρ s'.heap a (k + 1) v → Rep H.n ρ s'.heap u y → Q (some u) s') : wpAny cx.M A (pyNext (.ref a)) Q E s := by
  have go : ∀ h' u, Heap.SameBut a s.heap h' → Rep H.n ρ s.heap u y → (Kp H.n ρ s.heap H.n ρ h' → ItAt H.n ρ h' a (k + 1) v) → Q (some u) { s with heap := h' } := fun h' u hs r hi => by
    have S : Stp cx (· = a) ρ H s ρ H { s with heap := h' } := Stp.but _ I rfl O.ap O.low O.nf hs.extBut rfl I.bare
    have K := S.kp I (fun b o e hz q => O.nf o (q ▸ e) hz)
    obtain ⟨o, _, _, e, _, _, _, hz⟩ := (hi K).obj
    exact hQ u _ S ⟨⟨o, e, hz⟩, O.ap, O.nw, O.low⟩ (hi K) (r.mono K)
  rcases items_cases h with ⟨i, ys, rfl, hf, rfl⟩ | ⟨ys, rfl, rfl⟩
  · cases t with
    | list hi it =>
      obtain ⟨vs, kk, e, q⟩ := I.list hi hf
      obtain ⟨u, hu, ru⟩ := q.get k hk
      exact wpAny_pyNext_list_item it (isList_of e) (Array.getElem?_toList ▸ hu) fun h' it' hs => go h' u hs ru fun K => .list hi it'
  · cases t with
    | tup e q it =>
      obtain ⟨u, hu, ru⟩ := q.get k hk
      exact wpAny_pyNext_tuple_item it (isTuple_of e) (Array.getElem?_toList ▸ hu) fun h' it' hs => go h' u hs ru fun K => .tup (K.fro _ _ e ⟨.inl rfl, .inl ⟨_, _, rfl⟩⟩) (q.mono K) it'

theorem it_end {A : Around} {env : Env} {E} {s : Shared} {ρ : Nat → Addr} {v : V} {its : List V × Option Nat} {k : Nat} {a : Addr} {Q : Option Value → Shared → Prop} (hh : A.handled = none) (h : items H v = some its) (hk : its.1[k]? = none) (I : Inv cx ρ H s) (t : ItAt H.n ρ s.heap a k v) (O : Out cx env H.n ρ s.heap a)
    (hQ : ∀ s', Stp cx (· = a) ρ H s ρ H s' → Q none s') : wpAny cx.M A (pyNext (.ref a)) Q E s := by
  have go : ∀ h', Heap.ExtBut a s.heap h' → Q none { s with heap := h' } := fun h' hs => hQ _ (Stp.but _ I rfl O.ap O.low O.nf hs rfl I.bare)
  have none_of : ∀ {vs : Array Value} {xs : List V}, RepL H.n ρ s.heap vs.toList xs → xs[k]? = none → vs[k]? = none := fun {vs xs} q e => by
    rw [List.getElem?_eq_none_iff] at e
    rw [Array.getElem?_eq_none_iff, size_of q]; exact e
  rcases items_cases h with ⟨i, ys, rfl, hf, rfl⟩ | ⟨ys, rfl, rfl⟩
  · cases t with
    | list hi it =>
      obtain ⟨vs, kk, e, q⟩ := I.list hi hf
      exact wpAny_pyNext_list_end hh it (isList_of e) (none_of q hk) go
  · cases t with
    | tup e q it => exact wpAny_pyNext_tuple_end hh it (isTuple_of e) (none_of q hk) go

theorem it_own {A : Around} {E} {s : Shared} {ρ : Nat → Addr} {n : Nat} {v : V} {k : Nat} {a : Addr} {target : Expr} {u : Value} {Q : Unit → Shared → Prop} (t : ItAt n ρ s.heap a k v) (hQ : Q () s) : wpAny cx.M A (letOwnedTupleGo target (.ref a) u) Q E s := by
  obtain ⟨o, c, vs, e, hc, hd, hn, _⟩ := t.obj
  have go : wpAny cx.M A (load a >>= fun o => match o.cls, o.data with
    | .type n, .fields vs =>
      if ["enumerate", "zip", "dict_itemiterator", "dict_reverseitemiterator", "odict_iterator", "itertools.zip_longest", "itertools.pairwise"].contains n && vs[0]? == some (rawInt (match u with | .ref b => b | _ => 0)) then
        rule "for.unpacks-the-owned-tuple" >>= fun _ =>
        updateField a 0 .none
      else pure ()
    | _, _ => pure ()) Q E s := by
    refine wpAny_bind (wpAny_load e ?_)
    rw [hc, hd]
    show wpAny _ A (if (_ && _) = true then _ else _) Q E s
    rw [if_neg (by rw [hn, Bool.false_and]; simp)]
    exact wpAny_pure hQ
  have p : wpAny cx.M A (pure ()) Q E s := wpAny_pure hQ
  cases target with
  | Tuple => cases u <;> first | exact go | exact p
  | List => cases u <;> first | exact go | exact p
  | _ => exact p

theorem it_self {A : Around} {E} {s : Shared} {ρ : Nat → Addr} {n : Nat} {v : V} {k : Nat} {a : Addr} {Q : Value → Shared → Prop} (t : ItAt n ρ s.heap a k v) (hQ : Q (.ref a) s) : wpAny cx.M A (pyIter (.ref a)) Q E s := by
  cases t with
  | list _ it => exact wpAny_pyIter_listiter it hQ
  | tup _ _ it => exact wpAny_pyIter_tupleiter it hQ

/-- one step behind another, with places outside -/
theorem Stp.seqL {env : Env} {as : List Addr} {ρ ρ1 ρ2 : Nat → Addr} {s s1 s2 : Shared} {H1 H2 : Hp} {loc1 : Loc} (S : Stp cx (WL env as) ρ H s ρ1 H1 s1) (X1 : Vars cx env H1.n ρ1 s1.heap loc1) (al : ∀ a ∈ as, ∃ o, s1.heap.get? a = some o) (T : Stp cx (WL env as) ρ1 H1 s1 ρ2 H2 s2) : Stp cx (WL env as) ρ H s ρ2 H2 s2 :=
  S.transW T fun i h1 h2 w => by
    have hf := T.fresh i h1 h2
    rcases w with w | w
    · exact X1.notW T i h1 h2 w
    · obtain ⟨o, e⟩ := al _ w
      rw [hf] at e; cases e
theorem Stp.dropA {W : Addr → Prop} {a : Addr} {ρ ρ' : Nat → Addr} {s s' : Shared} (S : Stp cx (fun b => W b ∨ b = a) ρ H s ρ' H' s') (ha : s.heap.get? a = none) : Stp cx W ρ H s ρ' H' s' :=
  ⟨S.inv, S.le, S.agr, S.fresh, fun b o e hm hw => S.ext b o e hm fun q => by
    rcases q with q | q
    · exact hw q
    · rw [q, ha] at e; cases e⟩

theorem Vars.same {env : Env} {ρ : Nat → Addr} {s s' : Shared} {a : Addr} (I : Inv cx ρ H s) (X : Vars cx env H.n ρ s.heap loc) (S : Stp cx (· = a) ρ H s ρ H s') (O : Out cx env H.n ρ s.heap a) : Vars cx env H.n ρ s'.heap loc := by
  have K := S.kp I (fun b o e hz q => O.nf o (q ▸ e) hz)
  obtain ⟨m, hn, hm⟩ := X.ns
  have hLa : ¬ env.locals = a := fun q => O.nw (.inl q.symm)
  have up : ∀ c, (∀ i, i < H.n → ρ i ≠ c) → ¬ c = a → ∀ o, s.heap.get? c = some o → s'.heap.get? c = some o := fun c hc hne o e => S.ext c o e hc hne
  have hca : ∀ y c, env.cells.lookup y = some c → ¬ c = a := fun y c e q => O.nw (.inr ⟨y, q ▸ e⟩)
  refine ⟨⟨m, hn.at' (up _ X.apL hLa), fun y v e k => ?_⟩, fun y v e k => ?_, X.apL, X.apC, fun y c e => ?_, X.has, X.dist, X.low⟩
  · obtain ⟨u, h1, h2⟩ := hm y v e k
    exact ⟨u, h1, h2.mono K⟩
  · obtain ⟨c, u, h1, h2, h3⟩ := X.cell y v e k
    exact ⟨c, u, h1, isCell_at h2 (up _ (X.apC y c h1) (hca y c h1)), h3.mono K⟩
  · obtain ⟨⟨v, hv⟩, h1, h2⟩ := X.cells y c e
    exact ⟨⟨v, isCell_at hv (up _ (X.apC y c e) (hca y c e))⟩, h1, h2⟩

theorem drop_cons {α : Type} {l : List α} {k : Nat} {x : α} {t : List α} (h : l.drop k = x :: t) : l[k]? = some x ∧ l.drop (k + 1) = t ∧ k < l.length := by
  have hk : k < l.length := by
    rcases Nat.lt_or_ge k l.length with q | q
    · exact q
    · rw [List.drop_eq_nil_of_le q] at h; cases h
  rw [List.drop_eq_getElem_cons hk] at h
  simp only [List.cons.injEq] at h
  exact ⟨by rw [List.getElem?_eq_getElem hk, h.1], h.2, hk⟩
theorem drop_nil {α : Type} {l : List α} {k : Nat} (h : l.drop k = []) : l[k]? = none := by
  rw [List.getElem?_eq_none_iff]; exact List.drop_eq_nil_iff.mp h

/-- soundness of a loop, from the iterator's place k on -/
noncomputable def GFor (cx : Cx) (n : Nat) (sc : Sc) (target : Expr) (body : List Stmt) (src : Option Nat) (H0 : Hp) (xs : List V) (loc : Loc) (H : Hp) (fl : Fl) (loc' : Loc) (H' : Hp) : Prop :=
  ∀ {A env ρ s v ys k a} {R : Result → Shared → Prop}, items H0 v = some (ys, src) → items H v = some (ys, src) → ys.drop k = xs → Cn cx n sc loc H A env ρ s → ItAt H.n ρ s.heap a k v → Out cx env H.n ρ s.heap a →
    (∀ f s' ρ', Stp cx (WL env [a]) ρ H s ρ' H' s' → Vars cx env H'.n ρ' s'.heap loc' → RepF H'.n ρ' s'.heap f fl → R (.ok f) s') → codeAny cx.M A (.forLoop target (.ref a) body [] env) R s

theorem for_unroll {A : Around} {s : Shared} {R : Result → Shared → Prop} {target : Expr} {it : Value} {body : List Stmt} {env : Env}
    (turn : wpAny cx.M A (pyNext it) (fun r s₁ => match r with
      | none => R (.ok .next) s₁
      | some v => wpAny cx.M A (letOwnedTupleGo target it v) (fun _ s₁' => wpAny cx.M A (assign target env v) (fun _ s₂ => wpAny cx.M A (execs body env) (fun f s₃ => match f with
            | .next | .cont => codeAny cx.M A (.forLoop target it body [] env) R s₃
            | .brk => R (.ok .next) s₃
            | .ret v => R (.ok (.ret v)) s₃) (notedBy cx.M A env fun e s' => R (.error e) s') s₂) (notedBy cx.M A env fun e s' => R (.error e) s') s₁') (notedBy cx.M A env fun e s' => R (.error e) s') s₁) (notedBy cx.M A env fun e s' => R (.error e) s') s) :
    codeAny cx.M A (.forLoop target it body [] env) R s := by
  refine codeAny_of_tree ?_
  show wpAny _ A ((forTurn target it body [] env).onRaise (fun x => do noteFrame x env; theTreesLotGoes x)) _ _ s
  refine wpAny_noted ?_
  simp only [forTurn]
  refine wpAny_bind (wpAny_standAt (wpAny_bind (wpAny_onRaise (wpAny_mono turn (fun r s₁ h₁ => ?_) fun _ _ h' => wpAny_standAt h'))))
  cases r with
  | none => exact wpAny_pure ⟨rfl, codeAny_block (wpAny_execs_nil h₁)⟩
  | some v =>
    refine wpAny_bind (wpAny_mono h₁ (fun _ s₁' h₁' => ?_) fun _ _ h' => h')
    refine wpAny_bind (wpAny_mono h₁' (fun _ s₂ h₂ => wpAny_bind (wpAny_mono h₂ (fun f s₃ h₃ => ?_) fun _ _ h' => h')) fun _ _ h' => h')
    cases f with
    | next => exact wpAny_pure ⟨rfl, h₃⟩
    | cont => exact wpAny_pure ⟨rfl, h₃⟩
    | brk => exact wpAny_pure h₃
    | ret v => exact wpAny_pure h₃

variable {src : Option Nat} {H0 H1 H2 : Hp} {target : Expr} {body : List Stmt} {xs : List V} {loc1 loc2 loc' : Loc} {fl fl' : Fl}
theorem Out.has {env : Env} {ρ : Nat → Addr} {k : Nat} {h : Heap} {a : Addr} (O : Out cx env k ρ h a) : ∀ b ∈ [a], ∃ o, h.get? b = some o := fun b hb => by
  obtain ⟨o, e, _⟩ := O.al
  rw [List.mem_singleton] at hb; subst hb; exact ⟨o, e⟩
theorem Stp.one {env : Env} {a : Addr} {ρ ρ' : Nat → Addr} {s s' : Shared} (S : Stp cx (· = a) ρ H s ρ' H' s') : Stp cx (WL env [a]) ρ H s ρ' H' s' := S.weaken fun b q => .inr (List.mem_singleton.mpr q)
theorem Stp.left {env : Env} {as : List Addr} {ρ ρ' : Nat → Addr} {s s' : Shared} (S : Stp cx (Wr env) ρ H s ρ' H' s') : Stp cx (WL env as) ρ H s ρ' H' s' := S.weaken fun b q => .inl q
theorem f_nil : GFor cx n sc target body src H0 [] loc H .next loc H := fun {A env ρ s v ys k a R} _ hi hd C t O hR =>
  for_unroll (it_end C.ar.handled hi (drop_nil hd) C.inv t O fun s2 S2 => hR _ _ _ S2.one (C.vars.same C.inv S2 O) .next)

/-- one turn up to the body's end -/
theorem f_turn (hb : bindT sc H target x loc = some loc1) (hx : GXs cx n sc body loc1 H fl loc2 H1) {A env ρ s v ys k a} {R : Result → Shared → Prop} (hi : items H v = some (ys, src)) (hd : ys.drop k = x :: xs) (C : Cn cx n sc loc H A env ρ s) (t : ItAt H.n ρ s.heap a k v) (O : Out cx env H.n ρ s.heap a)
    (hR : ∀ f s' ρ', Stp cx (WL env [a]) ρ H s ρ' H1 s' → Vars cx env H1.n ρ' s'.heap loc2 → RepF H1.n ρ' s'.heap f fl → ItAt H1.n ρ' s'.heap a (k + 1) v → Out cx env H1.n ρ' s'.heap a →
      match f with | .next | .cont => codeAny cx.M A (.forLoop target (.ref a) body [] env) R s' | .brk => R (.ok .next) s' | .ret v => R (.ok (.ret v)) s') : codeAny cx.M A (.forLoop target (.ref a) body [] env) R s := by
  refine for_unroll (it_next hi (drop_cons hd).1 C.inv t O fun u s2 S2 O2 t2 r2 => ?_)
  have X2 := C.vars.same C.inv S2 O
  refine it_own t2 (bindT_sound (WrOk.wr sc env) C.ar.handled C.en hb S2.inv X2 r2 fun s3 S3 _ X3 => ?_)
  have O3 := O2.step S3 O2.nw
  refine hx (C.to S3.inv X3) fun f s4 ρ4 S4 X4 rf => ?_
  refine hR f s4 ρ4 ((S2.one.seqL X2 O2.has S3.left).seqL X3 O3.has S4.left) X4 rf (ItAt.mono (S4.kp S3.inv X3.nfW) (t2.mono (S3.kp S2.inv X2.nfW) fun o e => S3.ext a o e O2.ap O2.nw) fun o e => S4.ext a o e O3.ap O3.nw) (O3.step S4 O3.nw)
theorem f_cons (hb : bindT sc H target x loc = some loc1) (hx : GXs cx n sc body loc1 H fl loc2 H1) (hg : goesOn fl = true) (st : stands H0 H1 src) (h : GFor cx n sc target body src H0 xs loc2 H1 fl' loc' H2) : GFor cx n sc target body src H0 (x :: xs) loc H fl' loc' H2 := fun {A env ρ s v ys k a R} hi0 hi hd C t O hR => by
  refine f_turn hb hx hi hd C t O fun f s1 ρ1 S1 X1 rf t1 O1 => ?_
  have go := h hi0 (items_stands hi0 st) (drop_cons hd).2.1 (C.to S1.inv X1) t1 O1 fun f s' ρ' S2 X2 r2 => hR f s' ρ' (S1.seqL X1 O1.has S2) X2 r2
  cases rf with
  | next => exact go
  | cont => exact go
  | _ => first | exact noS hg | exact noB hg | cases hg
theorem f_brk (hb : bindT sc H target x loc = some loc1) (hx : GXs cx n sc body loc1 H .brk loc2 H1) : GFor cx n sc target body src H0 (x :: xs) loc H .next loc2 H1 := fun {A env ρ s v ys k a R} hi0 hi hd C t O hR =>
  f_turn hb hx hi hd C t O fun f s1 ρ1 S1 X1 rf t1 O1 => by cases rf; exact hR _ _ _ S1 X1 .next
theorem f_ret {v : V} (hb : bindT sc H target x loc = some loc1) (hx : GXs cx n sc body loc1 H (.ret v) loc2 H1) : GFor cx n sc target body src H0 (x :: xs) loc H (.ret v) loc2 H1 := fun {A env ρ s v ys k a R} hi0 hi hd C t O hR =>
  f_turn hb hx hi hd C t O fun f s1 ρ1 S1 X1 rf t1 O1 => by cases rf with | ret q => exact hR _ _ _ S1 X1 (.ret q)

theorem f_forget (hl : ∀ y v, loc1.lookup y = some v → loc.lookup y = some v) (h : GFor cx n sc target body src H0 xs loc1 H fl loc' H2) : GFor cx n sc target body src H0 xs loc H fl loc' H2 := fun hi0 hi hd C t O hR => h hi0 hi hd (C.to C.inv (C.vars.congr hl)) t O hR

theorem fresh_low {ρ : Nat → Addr} {s : Shared} (I : Inv cx ρ H s) {a : Addr} (ha : s.heap.get? a = none) : cx.g.get? a = none ∧ ∀ i, i < H.n → ρ i ≠ a := by
  refine ⟨?_, fun i hi q => ?_⟩
  · cases e : cx.g.get? a with
    | none => rfl
    | some o => rw [I.keep a o e] at ha; cases ha
  · obtain ⟨ob, e, _⟩ := (I.objs i hi).some
    rw [q, ha] at e; cases e
theorem Out.fresh {env : Env} {ρ : Nat → Addr} {s : Shared} {a : Addr} {h : Heap} (I : Inv cx ρ H s) (X : Vars cx env H.n ρ s.heap loc) (ha : s.heap.get? a = none) (e : ∃ o, h.get? a = some o ∧ ¬ Fz o) : Out cx env H.n ρ h a := by
  obtain ⟨hg, hm⟩ := fresh_low I ha
  refine ⟨e, hm, fun w => ?_, hg⟩
  obtain ⟨m, ⟨oL, _, _, hoL, _⟩, _⟩ := X.ns
  rcases w with w | ⟨y, w⟩
  · rw [w, hoL] at ha; cases ha
  · obtain ⟨⟨v, o', ho', _⟩, _⟩ := X.cells y a w
    rw [ho'] at ha; cases ha

theorem notSet_folded {e : Expr} {env : Env} (h : isSetE e = false) : ∀ x, foldedSetIterable e env x = pure x := fun x => by
  cases e <;> first | rfl | cases h

theorem x_For {iter : Expr} {pos : Pos} {it : V} (hs : isSetE iter = false) (h1 : GE cx n sc loc iter H it H1) (hi : items H1 it = some (xs, src)) (h2 : GFor cx n sc target body src H1 xs loc H1 fl loc' H2) : GX cx (n + 1) sc (.For target iter body [] pos) loc H fl loc' H2 := fun {A env ρ s Q E} C hQ => by
  refine wpAny_For (h1 C.low fun u s1 ρ1 S1 r1 => ?_) (notSet_folded hs)
  have C1 := C.low.step S1
  refine it_start hi S1.inv r1 fun a s2 ha S2 t2 => ?_
  obtain ⟨o, _, _, eo, _, _, _, hz⟩ := t2.obj
  refine h2 hi hi List.drop_zero (C1.step S2) t2 (Out.fresh S1.inv C1.vars ha ⟨o, eo, hz⟩) fun f s3 ρ3 S3 X3 rf => hQ f s3 ρ3 ?_ X3 rf
  have S23 : Stp cx (fun b => Wr env b ∨ b = a) ρ1 H1 s1 ρ3 H2 s3 := (S2.weaken fun _ f => f.elim).transW (S3.weaken fun b q => q.imp id List.mem_singleton.mp) fun i h1 h2 w => by
    have hf := S3.fresh i h1 h2
    rcases w with w | w
    · exact (C1.step S2).vars.notW S3 i h1 h2 w
    · rw [w, eo] at hf; cases hf
  exact (S1.weaken fun _ f => f.elim).transW (S23.dropA ha) fun i h1 h2 w => C1.vars.notW S23 i h1 h2 w
end
end Mine
end
section
open PySem PySem.W PyProof.Rows PySem.SeqAt
namespace Mine

/-- one turn of a comprehension's loop -/
noncomputable def turnAt (target iter : Expr) (ifs : List Expr) (next : Option Comprehension) (emit : Sem Unit) (e : Expr) (depth : Nat) (it acc : Value) (env : Env) : Sem PySem.Fin := do
  standAt iter.pos
  match ← pyNext it with
  | none => pure (.done .next)
  | some v =>
    letOwnedTupleGo target it v
    assign target env v
    let mut ok := true
    for c in ifs do
      if ok then ok ← isTrue c env (eval c env)
    if ok then
      match next with
      | some g' =>
        let x ← eval g'.iter env
        standAt g'.iter.pos
        let x ← if g'.is_async != 0 then foldedIterable g'.iter x else foldedSetIterable g'.iter env x
        let _ ← runOwn (.compStart e (depth + 1) (← holding [x] (if g'.is_async != 0 then asyncIter x else pyIter x)) acc env) env
      | none => emit
    again (.compLoop e depth it acc env)

noncomputable def emitL (elt : Expr) (acc : Value) (env : Env) : Sem Unit := do let _ ← call (.builtin "list.append") [acc, ← eval elt env]
noncomputable def emitD (k v : Expr) (acc : Value) (env : Env) : Sem Unit := do
  let kv ← eval k env
  let vv ← holding [kv] (eval v env)
  match acc with
  | .ref d => do
    standAt { k.pos with endLine := v.pos.endLine, endCol := v.pos.endCol }
    holding [kv, vv] (dictSet d kv vv)
  | _ => unsupported "internal:dictcomp"

theorem turn_L {elt target iter : Expr} {ifs : List Expr} {gens : List Comprehension} {scope : Scope} {pos : Pos} {depth : Nat} {it acc : Value} {env : Env} (hg : gens[depth]? = some ⟨target, iter, ifs, 0⟩) :
    compTurn (.ListComp elt gens scope pos) depth it acc env = turnAt target iter ifs (gens[depth + 1]?) (emitL elt acc env) (.ListComp elt gens scope pos) depth it acc env := by
  unfold compTurn
  dsimp only
  rw [hg]
  rfl
theorem turn_D {k v target iter : Expr} {ifs : List Expr} {gens : List Comprehension} {scope : Scope} {pos : Pos} {depth : Nat} {it acc : Value} {env : Env} (hg : gens[depth]? = some ⟨target, iter, ifs, 0⟩) :
    compTurn (.DictComp k v gens scope pos) depth it acc env = turnAt target iter ifs (gens[depth + 1]?) (emitD k v acc env) (.DictComp k v gens scope pos) depth it acc env := by
  unfold compTurn
  dsimp only
  rw [hg]
  rfl

section
variable {pe : Pe} {cx : Cx} {n : Nat} {sc : Sc} {loc : Loc} {H H' : Hp} {x : V}

/-- a comprehension that is no generator -/
structure CompE (e : Expr) : Prop where
  den1 : ∀ (M : Model) prog w d it acc env, M = model prog w → M.den (.compStart e d it acc env) = (compStart e d it acc env).onRaise (fun x => do noteFrame x env; standAt theWindowsPlace)
  den2 : ∀ (M : Model) prog w d it acc env, M = model prog w → M.den (.compLoop e d it acc env) = (compTurn e d it acc env).onRaise (fun x => do noteFrame x env; theTreesLotGoes x)
  und1 : ∀ (A : Around) d it acc env, A.under (.compStart e d it acc env) = A
  und2 : ∀ (A : Around) d it acc env, A.under (.compLoop e d it acc env) = A
theorem compE_L (elt gens scope pos) : CompE (.ListComp elt gens scope pos) := ⟨fun _ _ _ _ _ _ _ e => by subst e; rfl, fun _ _ _ _ _ _ _ e => by subst e; rfl, fun _ _ _ _ _ => Around.under_of_weight rfl, fun _ _ _ _ _ => Around.under_of_weight rfl⟩
theorem compE_D (k v gens scope pos) : CompE (.DictComp k v gens scope pos) := ⟨fun _ _ _ _ _ _ _ e => by subst e; rfl, fun _ _ _ _ _ _ _ e => by subst e; rfl, fun _ _ _ _ _ => Around.under_of_weight rfl, fun _ _ _ _ _ => Around.under_of_weight rfl⟩

theorem comp_start {e : Expr} (C : CompE e) {depth : Nat} {target iter : Expr} {ifs : List Expr} {it acc : Value} {env : Env} {A : Around} {R : Result → Shared → Prop} {s : Shared} (hg : (clausesOf e)[depth]? = some ⟨target, iter, ifs, 0⟩)
    (h0 : codeAny cx.M A (.compLoop e depth it acc env) R s)
    (h : wpAny cx.M A (pyIter it) (fun it' s' => codeAny cx.M A (.compLoop e depth it' acc env) R s') (notedBy cx.M A env fun x s' => R (.error x) s') s) : codeAny cx.M A (.compStart e depth it acc env) R s := by
  refine codeAny_of_tree ?_
  rw [C.den1 _ _ _ _ _ _ _ rfl, C.und1]
  refine wpAny_notedAt ?_
  unfold compStart
  rw [hg]
  dsimp only [Option.elim]
  simp only [bne_self_eq_false, Bool.false_eq_true, if_false]
  refine wpAny_bind (wpAny_askSetting (wpAny_ite ?_))
  split
  · first
      | exact wpAny_bind (wpAny_pure (wpAny_pure (And.intro rfl h0)))
      | exact wpAny_pure (And.intro rfl h0)
  · exact wpAny_bind (wpAny_rule (wpAny_bind (wpAny_standAt (wpAny_bind (wpAny_mono h (fun it' s' h' => wpAny_pure (And.intro rfl h')) fun _ _ x => x)))))

theorem Vars.stepW {env : Env} {ρ ρ' : Nat → Addr} {s s' : Shared} {W : Addr → Prop} (I : Inv cx ρ H s) (X : Vars cx env H.n ρ s.heap loc) (S : Stp cx W ρ H s ρ' H' s') (hw : ∀ b, Wr env b → ¬ W b) (hz : ∀ b o, s.heap.get? b = some o → Fz o → ¬ W b) : Vars cx env H'.n ρ' s'.heap loc := by
  have K := S.kp I hz
  obtain ⟨m, hn, hm⟩ := X.ns
  obtain ⟨oL, _, _, hoL, _⟩ := id hn
  have upL := fun o e => S.ext env.locals o e X.apL (hw _ (.inl rfl))
  have upC : ∀ y c, env.cells.lookup y = some c → ∀ o, s.heap.get? c = some o → s'.heap.get? c = some o := fun y c hc o e => S.ext c o e (X.apC y c hc) (hw _ (.inr ⟨y, hc⟩))
  refine ⟨⟨m, hn.at' upL, fun y v e k => ?_⟩, fun y v e k => ?_, S.old hoL X.apL, fun y c e => ?_, fun y c e => ?_, X.has, X.dist, X.low⟩
  · obtain ⟨u, a, b⟩ := hm y v e k
    exact ⟨u, a, b.mono K⟩
  · obtain ⟨c, u, a, b, d⟩ := X.cell y v e k
    exact ⟨c, u, a, isCell_at b (upC y c a), d.mono K⟩
  · obtain ⟨⟨v, o, ho, _⟩, _, _⟩ := X.cells y c e
    exact S.old ho (X.apC y c e)
  · obtain ⟨⟨v, hv⟩, a, b⟩ := X.cells y c e
    exact ⟨⟨v, isCell_at hv (upC y c e)⟩, a, b⟩

theorem bindTs_ext {ts : List Expr} : ∀ {xs : List V} {loc loc' : Loc}, bindTs sc ts xs loc = some loc' → ∀ y v, loc.lookup y = some v → (∀ z ∈ ts.filterMap isName, z ≠ y) → loc'.lookup y = some v := by
  induction ts with
  | nil => intro xs loc loc' h y v e _; obtain ⟨rfl, rfl⟩ := bindTs_nil h; exact e
  | cons t ts ih =>
    intro xs loc loc' h y v e hn
    obtain ⟨id, p, z, zs, rfl, rfl, ho, h⟩ := bindTs_cons h
    refine ih h y v ?_ fun z hz => hn z (List.mem_cons_of_mem _ hz)
    rw [lookup_setL, if_neg (Ne.symm (hn id List.mem_cons_self))]
    exact e
theorem bindT_ext {t : Expr} {v : V} {loc' : Loc} (h : bindT sc H t v loc = some loc') (hf : (tnames t).any (fun x => (loc.lookup x).isSome) = false) : ∀ y w, loc.lookup y = some w → loc'.lookup y = some w := by
  intro y w e
  have hn : ∀ z ∈ tnames t, z ≠ y := fun z hz q => by
    rw [List.any_eq_false] at hf
    exact hf z hz (by rw [q, e]; rfl)
  cases t with
  | Name id p =>
    obtain ⟨_, rfl⟩ := ite_some h
    rw [lookup_setL, if_neg (Ne.symm (hn _ List.mem_cons_self))]
    exact e
  | Tuple ts a p =>
    obtain ⟨xs, _, h⟩ := Option.bind_eq_some_iff.mp h
    exact bindTs_ext h y w e hn
  | _ => first | exact noS h | exact noB h | cases h

theorem RepO.stepW {W : Addr → Prop} {ρ ρ' : Nat → Addr} {s s' : Shared} {D : Addr} {o : AObj} (I : Inv cx ρ H s) (S : Stp cx W ρ H s ρ' H' s') (hz : ∀ b ob, s.heap.get? b = Option.some ob → Fz ob → ¬ W b) (hD : ¬ W D) (ap : ∀ i, i < H.n → ρ i ≠ D) (q : RepO cx.prog cx.w H.n ρ s.heap D o) : RepO cx.prog cx.w H'.n ρ' s'.heap D o := by
  obtain ⟨ob, e, _⟩ := q.some
  exact q.mono (S.kp I hz) ((S.ext D ob e ap hD).trans e.symm)

abbrev WC (env : Env) (as : List Addr) : Addr → Prop := fun b => b ∈ env.locals :: as

theorem Stp.seqC {env : Env} {as : List Addr} {ρ ρ1 ρ2 : Nat → Addr} {s s1 s2 : Shared} {H1 H2 : Hp} {loc1 : Loc} (S : Stp cx (WC env as) ρ H s ρ1 H1 s1) (X1 : Vars cx env H1.n ρ1 s1.heap loc1) (al : ∀ a ∈ as, ∃ o, s1.heap.get? a = some o) (T : Stp cx (WC env as) ρ1 H1 s1 ρ2 H2 s2) : Stp cx (WC env as) ρ H s ρ2 H2 s2 :=
  S.transW T fun i h1 h2 w => by
    have hf := T.fresh i h1 h2
    rcases List.mem_cons.mp w with w | w
    · exact X1.notW T i h1 h2 (.inl w)
    · obtain ⟨o, e⟩ := al _ w
      rw [hf] at e; cases e

theorem nocell {env : Env} {as : List Addr} (N : EnvOk cx env sc) (hc : ∀ y, sc.lookup y ≠ some .cell) : WrOk sc env (WC env as) :=
  ⟨.head _, fun y c ho hk _ => by
    unfold own at ho
    generalize e : sc.lookup y = k at ho
    cases k with
    | none => cases ho
    | some k =>
      cases k with
      | «local» => rw [N.kind' e (by decide)] at hk; cases hk
      | cell => exact absurd e (hc y)
      | _ => first | exact noS ho | exact noB ho | cases ho⟩

theorem wp_eq {α : Type} {M : Model} {A : Around} {m m' : Sem α} {Q : α → Shared → Prop} {E} {s : Shared} (e : m = m') (h : wpAny M A m' Q E s) : wpAny M A m Q E s := e ▸ h

noncomputable def nextOf (next : Option Comprehension) (emit : Sem Unit) (e : Expr) (depth : Nat) (acc : Value) (env : Env) (k : Sem PySem.Fin) : Sem PySem.Fin :=
  match next with
  | some g' => eval g'.iter env >>= fun x => standAt g'.iter.pos >>= fun _ =>
      (fun jp : Value → Sem PySem.Fin => if g'.is_async != 0 then foldedIterable g'.iter x >>= jp else foldedSetIterable g'.iter env x >>= jp) fun x =>
        holding [x] (if g'.is_async != 0 then asyncIter x else pyIter x) >>= fun it => runOwn (.compStart e (depth + 1) it acc env) env >>= fun _ => k
  | none => emit >>= fun _ => k

/-- what is laid, and what is built of it -/
noncomputable def emitOf (em : Em) (acc : Value) (env : Env) : Sem Unit := match em with
  | .el e => emitL e acc env
  | .kv k v => emitD k v acc env
noncomputable def objOf (em : Em) (ys : List V) : AObj := match em with
  | .el _ => .list ys
  | .kv _ _ => .dict (dictL ys)
structure CompT (e : Expr) (em : Em) : Prop extends CompE e where
  turn : ∀ {depth target iter ifs it acc env}, (clausesOf e)[depth]? = some ⟨target, iter, ifs, 0⟩ → compTurn e depth it acc env = turnAt target iter ifs ((clausesOf e)[depth + 1]?) (emitOf em acc env) e depth it acc env
theorem compT_L (elt gens scope pos) : CompT (.ListComp elt gens scope pos) (.el elt) := ⟨compE_L _ _ _ _, fun hg => turn_L hg⟩
theorem compT_D (k v gens scope pos) : CompT (.DictComp k v gens scope pos) (.kv k v) := ⟨compE_D _ _ _ _ _, fun hg => turn_D hg⟩

/-- the loop of one clause from the iterator's place k on -/
noncomputable def GCl (cx : Cx) (n : Nat) (sc : Sc) (em : Em) (gens : List Comprehension) (target : Expr) (ifs : List Expr) (loc : Loc) (src : Option Nat) (H0 : Hp) (xs : List V) (H : Hp) (ys : List V) (H' : Hp) : Prop :=
  (tnames target).any (fun x => (loc.lookup x).isSome) = false → (∀ y, sc.lookup y ≠ some .cell) → ∀ {A env ρ s v zs k a D e depth iter ys0} {R : Result → Shared → Prop}, CompT e em → (clausesOf e).drop depth = ⟨target, iter, ifs, 0⟩ :: gens → items H0 v = some (zs, src) → items H v = some (zs, src) → zs.drop k = xs →
    Cn cx n sc loc H A env ρ s → ItAt H.n ρ s.heap a k v → Out cx env H.n ρ s.heap a → Out cx env H.n ρ s.heap D → a ≠ D → RepO cx.prog cx.w H.n ρ s.heap D (objOf em ys0) → ys0.length + ys.length ≤ lim →
    (∀ s' ρ', Stp cx (WC env [a, D]) ρ H s ρ' H' s' → Vars cx env H'.n ρ' s'.heap loc → Out cx env H'.n ρ' s'.heap D → RepO cx.prog cx.w H'.n ρ' s'.heap D (objOf em (ys0 ++ ys)) → R (.ok .next) s') → codeAny cx.M A (.compLoop e depth (.ref a) (.ref D) env) R s
/-- what is done with an item -/
noncomputable def GIn (cx : Cx) (n : Nat) (sc : Sc) (em : Em) (gens : List Comprehension) (loc : Loc) (H : Hp) (ys : List V) (H' : Hp) : Prop :=
  (∀ y, sc.lookup y ≠ some .cell) → ∀ {A env ρ s D e depth ys0} {Q : PySem.Fin → Shared → Prop} {E} {kk : Sem PySem.Fin}, CompT e em → (clausesOf e).drop (depth + 1) = gens → Cn cx n sc loc H A env ρ s → Out cx env H.n ρ s.heap D → RepO cx.prog cx.w H.n ρ s.heap D (objOf em ys0) → ys0.length + ys.length ≤ lim →
    (∀ s' ρ', Stp cx (WC env [D]) ρ H s ρ' H' s' → Vars cx env H'.n ρ' s'.heap loc → Out cx env H'.n ρ' s'.heap D → RepO cx.prog cx.w H'.n ρ' s'.heap D (objOf em (ys0 ++ ys)) → wpAny cx.M A kk Q E s') →
    wpAny cx.M A (nextOf ((clausesOf e)[depth + 1]?) (emitOf em (.ref D) env) e depth (.ref D) env kk) Q E s

variable {em : Em} {gens : List Comprehension} {target iter : Expr} {ifs : List Expr} {src : Option Nat} {H0 H1 H2 H3 : Hp} {xs ys zs : List V} {loc1 : Loc} {b : Bool}

theorem not_fz {env : Env} {ρ : Nat → Addr} {k : Nat} {h : Heap} {a : Addr} (O : Out cx env k ρ h a) : ∀ b ob, h.get? b = some ob → Fz ob → ¬ b = a := fun b ob q hz e => O.nf ob (e ▸ q) hz
theorem Out.two {env : Env} {ρ : Nat → Addr} {k : Nat} {h : Heap} {a D : Addr} (O : Out cx env k ρ h a) (O' : Out cx env k ρ h D) : ∀ b ∈ [a, D], ∃ o, h.get? b = some o := fun b hb => by
  rcases List.mem_cons.mp hb with rfl | hb
  · obtain ⟨o, e, _⟩ := O.al; exact ⟨o, e⟩
  · exact O'.has b hb
theorem Stp.oneC {env : Env} {a : Addr} {as : List Addr} {ρ ρ' : Nat → Addr} {s s' : Shared} (S : Stp cx (· = a) ρ H s ρ' H' s') : Stp cx (WC env (a :: as)) ρ H s ρ' H' s' := S.weaken fun b q => .tail _ (q ▸ .head _)
theorem Stp.nilC {env : Env} {as : List Addr} {ρ ρ' : Nat → Addr} {s s' : Shared} (S : Stp cx (WC env []) ρ H s ρ' H' s') : Stp cx (WC env as) ρ H s ρ' H' s' := S.weaken fun b q => List.mem_singleton.mp q ▸ .head _
theorem Stp.tlC {env : Env} {a D : Addr} {ρ ρ' : Nat → Addr} {s s' : Shared} (S : Stp cx (WC env [D]) ρ H s ρ' H' s') : Stp cx (WC env [a, D]) ρ H s ρ' H' s' := S.weaken fun b q => (List.mem_cons.mp q).elim (fun q => q ▸ .head _) fun q => .tail _ (.tail _ q)

theorem cl_end : GCl cx n sc em gens target ifs loc src H0 [] H [] H := fun _ _ {A env ρ s v zs k a D e depth iter ys0 R} C hd _ hi hz c t O OD hne rD _ hR => by
  refine codeAny_of_tree ?_
  rw [C.den2 _ _ _ _ _ _ _ rfl, C.und2, C.turn (drop_cons hd).1]
  refine wpAny_noted ?_
  unfold turnAt
  refine wpAny_bind (wpAny_standAt (wpAny_bind (it_end c.ar.handled hi (drop_nil hz) c.inv t O fun s2 S2 => wpAny_pure ?_)))
  exact hR _ _ S2.oneC (c.vars.same c.inv S2 O) (OD.step S2 fun q => hne q.symm) (by rw [List.append_nil]; exact RepO.stepW c.inv S2 (not_fz O) (fun q => hne q.symm) OD.ap rD)

/-- one turn up to the tests' end -/
theorem cl_turn (hb : bindT sc H target x loc = some loc1) (h1 : GIf cx n sc loc1 ifs H b H1) (hc : ∀ y, sc.lookup y ≠ some .cell) {A env ρ s v zs k a D e depth ys0} {R : Result → Shared → Prop} (C : CompT e em) (hd : (clausesOf e).drop depth = ⟨target, iter, ifs, 0⟩ :: gens) (hi : items H v = some (zs, src)) (hz : zs.drop k = x :: xs)
    (c : Cn cx n sc loc H A env ρ s) (t : ItAt H.n ρ s.heap a k v) (O : Out cx env H.n ρ s.heap a) (OD : Out cx env H.n ρ s.heap D) (hne : a ≠ D) (rD : RepO cx.prog cx.w H.n ρ s.heap D (objOf em ys0))
    (h : ∀ s' ρ', Stp cx (WC env [a, D]) ρ H s ρ' H1 s' → Cn cx n sc loc1 H1 A env ρ' s' → ItAt H1.n ρ' s'.heap a (k + 1) v → Out cx env H1.n ρ' s'.heap a → Out cx env H1.n ρ' s'.heap D → RepO cx.prog cx.w H1.n ρ' s'.heap D (objOf em ys0) →
      wpAny cx.M A (bif b then nextOf ((clausesOf e)[depth + 1]?) (emitOf em (.ref D) env) e depth (.ref D) env (again (.compLoop e depth (.ref a) (.ref D) env)) else again (.compLoop e depth (.ref a) (.ref D) env)) (fun fin s' => match fin with | .done f => R (.ok f) s' | .again c' => c'.quiet = true ∧ codeAny cx.M A c' R s') (notedBy cx.M A env fun e s' => R (.error e) s') s') :
    codeAny cx.M A (.compLoop e depth (.ref a) (.ref D) env) R s := by
  refine codeAny_of_tree ?_
  rw [C.den2 _ _ _ _ _ _ _ rfl, C.und2, C.turn (drop_cons hd).1]
  refine wpAny_noted ?_
  unfold turnAt
  refine wpAny_bind (wpAny_standAt (wpAny_bind (it_next hi (drop_cons hz).1 c.inv t O fun u s2 S2 O2 t2 r2 => ?_)))
  have X2 := c.vars.same c.inv S2 O
  have OD2 := OD.step S2 fun q => hne q.symm
  have rD2 := RepO.stepW c.inv S2 (not_fz O) (fun q => hne q.symm) OD.ap rD
  refine wpAny_bind (it_own t2 (wpAny_bind (bindT_sound (nocell (as := []) c.en hc) c.ar.handled c.en hb S2.inv X2 r2 fun s3 S3 Z3 X3 => ?_)))
  have nl : ∀ {b}, Out cx env H.n ρ s2.heap b → ¬ WC env [] b := fun O w => O.nw (.inl (List.mem_singleton.mp w))
  have O3 := O2.step S3 (nl O2)
  have OD3 := OD2.step S3 (nl OD2)
  refine wpAny_bind (h1 (c.to S3.inv X3) fun s4 ρ4 S4 => ?_)
  refine wp_eq (m' := bif b then nextOf ((clausesOf e)[depth + 1]?) (emitOf em (.ref D) env) e depth (.ref D) env (again (.compLoop e depth (.ref a) (.ref D) env)) else again (.compLoop e depth (.ref a) (.ref D) env)) ?_ (h s4 ρ4 ?_ ((c.to S3.inv X3).step S4) ?_ (O3.step S4 id) (OD3.step S4 id) ?_)
  · cases b
    · rfl
    · cases (clausesOf e)[depth + 1]? <;> rfl
  · exact (S2.oneC.seqC X2 (O2.two OD2) S3.nilC).seqC X3 (O3.two OD3) (S4.weaken fun _ q => q.elim)
  · exact ItAt.mono (S4.kp S3.inv fun _ _ _ _ x => x) (t2.mono (Z3.kp S2.inv X2.nfW) fun o e => S3.ext a o e O2.ap (nl O2)) fun o e => S4.ext a o e O3.ap id
  · exact RepO.stepW S3.inv S4 (fun _ _ _ _ x => x) id OD3.ap (RepO.stepW S2.inv Z3 X2.nfW OD2.nw OD2.ap rD2)

theorem cl_skp (hb : bindT sc H target x loc = some loc1) (h1 : GIf cx n sc loc1 ifs H false H1) (st : stands H0 H1 src) (h2 : GCl cx n sc em gens target ifs loc src H0 xs H1 ys H2) : GCl cx n sc em gens target ifs loc src H0 (x :: xs) H ys H2 := fun hf hc {A env ρ s v zs k a D e depth iter ys0 R} C hd hi0 hi hz c t O OD hne rD hl hR =>
  cl_turn hb h1 hc C hd hi hz c t O OD hne rD fun s1 ρ1 S1 c1 t1 O1 OD1 rD1 => wpAny_pure ⟨rfl, h2 hf hc C hd hi0 (items_stands hi0 st) (drop_cons hz).2.1 (c1.to c1.inv (c1.vars.congr (bindT_ext hb hf))) t1 O1 OD1 hne rD1 hl fun s2 ρ2 S2 X2 O2 r2 => hR s2 ρ2 (S1.seqC c1.vars (O1.two OD1) S2) X2 O2 r2⟩

theorem cl_con (hb : bindT sc H target x loc = some loc1) (h1 : GIf cx n sc loc1 ifs H true H1) (h2 : GIn cx n sc em gens loc1 H1 ys H2) (st : stands H0 H2 src) (h3 : GCl cx n sc em gens target ifs loc src H0 xs H2 zs H3) : GCl cx n sc em gens target ifs loc src H0 (x :: xs) H (ys ++ zs) H3 := fun hf hc {A env ρ s v vs k a D e depth iter ys0 R} C hd hi0 hi hz c t O OD hne rD hl hR => by
  refine cl_turn hb h1 hc C hd hi hz c t O OD hne rD fun s1 ρ1 S1 c1 t1 O1 OD1 rD1 => ?_
  rw [List.length_append] at hl
  have hd' : (clausesOf e).drop (depth + 1) = gens := by rw [← List.drop_drop, hd]; rfl
  refine h2 hc C hd' c1 OD1 rD1 (Nat.le_trans (Nat.add_le_add_left (Nat.le_add_right _ _) _) hl) fun s2 ρ2 S2 X2 OD2 r2 => wpAny_pure ⟨rfl, ?_⟩
  have nD : ¬ WC env [D] a := fun w => (List.mem_cons.mp w).elim (fun w => O1.nw (.inl w)) fun w => hne (List.mem_singleton.mp w)
  have zD : ∀ b ob, s1.heap.get? b = some ob → Fz ob → ¬ WC env [D] b := fun b ob q hz w => (List.mem_cons.mp w).elim (fun w => c1.vars.nfW b ob q hz (.inl w)) fun w => OD1.nf ob (List.mem_singleton.mp w ▸ q) hz
  have O2 := O1.step S2 nD
  refine h3 hf hc C hd hi0 (items_stands hi0 st) (drop_cons hz).2.1 (c1.to S2.inv (X2.congr (bindT_ext hb hf))) (t1.mono (S2.kp c1.inv zD) fun o e => S2.ext a o e O1.ap nD) O2 OD2 hne r2 ?_ fun s3 ρ3 S3 X3 O3 r3 => hR s3 ρ3 ((S1.seqC c1.vars (O1.two OD1) S2.tlC).seqC X2 (O2.two OD2) S3) X3 O3 (List.append_assoc .. ▸ r3)
  rw [List.length_append, Nat.add_assoc]; exact hl

theorem in_nxt {it : V} (hs : isSetE iter = false) (h1 : GE cx n sc loc iter H it H1) (hi : items H1 it = some (xs, src)) (hf : (tnames target).any (fun x => (loc.lookup x).isSome) = false) (h2 : GCl cx n sc em gens target ifs loc src H1 xs H1 ys H2) : GIn cx n sc em (⟨target, iter, ifs, 0⟩ :: gens) loc H ys H2 := fun hc {A env ρ s D e depth ys0 Q E kk} C hd c OD rD hl hQ => by
  obtain ⟨hnext, _, _⟩ := drop_cons hd
  rw [hnext]
  simp only [nextOf, bne_self_eq_false, Bool.false_eq_true, if_false]
  refine wpAny_bind (h1 c fun u s3 ρ3 S3 r3 => wpAny_bind (wpAny_standAt (wpAny_bind ?_)))
  refine wpAny_of_eq (notSet_folded hs u) (wpAny_bind (wpAny_holding ?_))
  have c3 := c.step S3
  refine it_start hi S3.inv r3 fun a' s4 ha' S4 t4 => ?_
  have c4 := c3.step S4
  have OD3 := OD.step S3 id
  have OD4 := OD3.step S4 id
  obtain ⟨ob, _, _, eo, _, _, _, hz⟩ := t4.obj
  have Oa' : Out cx env H1.n ρ3 s4.heap a' := Out.fresh S3.inv c3.vars ha' ⟨ob, eo, hz⟩
  obtain ⟨o3, e3, _⟩ := OD3.al
  obtain ⟨o4, e4, _⟩ := OD4.al
  have hne' : a' ≠ D := fun q => by rw [q, e3] at ha'; cases ha'
  have rD4 : RepO cx.prog cx.w H1.n ρ3 s4.heap D (objOf em ys0) := RepO.stepW S3.inv S4 (fun _ _ _ _ x => x) id OD3.ap (RepO.stepW c.inv S3 (fun _ _ _ _ x => x) id OD.ap rD)
  have goal : codeAny cx.M A (.compLoop e (depth + 1) (.ref a') (.ref D) env) (fun r s' => match r with | .ok f => wpAny cx.M A kk Q E s' | .error x => cameBackBy cx.M A env E x s') s4 := by
    refine h2 hf hc C hd hi hi List.drop_zero c4 t4 Oa' OD4 hne' rD4 hl fun s5 ρ5 S5 X5 O5 r5 => ?_
    have S5' : Stp cx (fun b => WC env [D] b ∨ b = a') ρ3 H1 s4 ρ5 H2 s5 := S5.weaken fun b q => (List.mem_cons.mp q).elim (fun q => .inl (q ▸ .head _)) fun q => (List.mem_cons.mp q).elim .inr fun q => .inl (.tail _ q)
    have S45 : Stp cx (fun b => WC env [D] b ∨ b = a') ρ3 H1 s3 ρ5 H2 s5 := (S4.weaken fun _ f => f.elim).transW S5' fun i h1 h2 w => by
      have hf := S5.fresh i h1 h2
      rcases w with w | w
      · rcases List.mem_cons.mp w with w | w
        · exact c4.vars.notW S5 i h1 h2 (.inl w)
        · rw [List.mem_singleton.mp w, e4] at hf; cases hf
      · rw [w, eo] at hf; cases hf
    refine hQ s5 ρ5 ((S3.weaken fun _ f => f.elim).transW (S45.dropA ha') fun i h1 h2 w => ?_) X5 O5 r5
    rcases List.mem_cons.mp w with w | w
    · exact c3.vars.notW S45 i h1 h2 (.inl w)
    · have hf := S45.fresh i h1 h2
      rw [List.mem_singleton.mp w, e3] at hf; cases hf
  refine wpAny_bind (wpAny_runOwn (comp_start C.toCompE hnext ?_ ?_))
  · exact codeAny_mono goal fun r s' z => by cases r <;> exact z
  · exact it_self t4 (codeAny_mono goal fun r s' z => by cases r <;> exact z)
end
end Mine
end
section
open PySem PySem.W PyProof.Rows PySem.SeqAt
namespace Mine

noncomputable def clOf (cells : List (Str × Addr)) : List (Str × NameKind) → List (Str × Addr) → List (Str × Addr)
  | [], cs => cs
  | (x, k) :: r, cs => if k == .free then clOf cells r ((x, (cells.lookup x).getD 0) :: cs) else clOf cells r cs

theorem clOf_cons {cells cs : List (Str × Addr)} {p : Str × NameKind} {r : List (Str × NameKind)} : clOf cells (p :: r) cs = if (p.2 == .free) = true then clOf cells r ((p.1, (cells.lookup p.1).getD 0) :: cs) else clOf cells r cs := rfl
theorem closure_go {env : Env} : ∀ {names : List (Str × NameKind)} {cs : List (Str × Addr)}, (∀ p ∈ names, p.2 = .free → ∃ c, env.cells.lookup p.1 = some c) →
    (forIn names cs fun (p : Str × NameKind) (cs : List (Str × Addr)) => (match p with | (name, kind) => if kind == .free then (do let a ← cellOf env name; pure (ForInStep.yield ((name, a) :: cs))) else pure (ForInStep.yield cs)) : Sem (List (Str × Addr))) = pure (clOf env.cells names cs) := by
  intro names
  induction names with
  | nil => exact fun _ => rfl
  | cons p r ih =>
    intro cs h
    obtain ⟨x, k⟩ := p
    have ih := fun cs => ih (cs := cs) fun p hp => h p (List.mem_cons_of_mem _ hp)
    rw [List.forIn_cons, clOf_cons]
    by_cases hk : (k == NameKind.free) = true
    · obtain ⟨c, hc⟩ := h (x, k) List.mem_cons_self (beq_iff_eq.mp hk)
      have e : cellOf env x = pure c := by unfold cellOf; rw [hc]
      have e2 : (env.cells.lookup x).getD 0 = c := by rw [hc]; rfl
      show ((if (k == NameKind.free) = true then _ else _) >>= _) = _
      rw [if_pos hk, if_pos hk, e2, e]
      exact ih ((x, c) :: cs)
    · show ((if (k == NameKind.free) = true then _ else _) >>= _) = _
      rw [if_neg hk, if_neg hk]
      exact ih cs

theorem closure_eq {scope : Scope} {env : Env} (h : ∀ p ∈ scope.names, p.2 = .free → ∃ c, env.cells.lookup p.1 = some c) : closureFor scope env = pure (clOf env.cells scope.names []) := by
  have e := closure_go (cs := []) h
  unfold closureFor
  show (forIn scope.names [] _ >>= fun cs => pure cs) = _
  rw [show (forIn scope.names [] _ : Sem (List (Str × Addr))) = pure (clOf env.cells scope.names []) from e]
  rfl

theorem clOf_lookup {cells : List (Str × Addr)} {x : Str} {names : List (Str × NameKind)} : ∀ {cs : List (Str × Addr)} {c : Addr}, (∀ p ∈ names, p.2 = .free → ∃ c, cells.lookup p.1 = some c) → (∀ c, cs.lookup x = some c → cells.lookup x = some c) → (clOf cells names cs).lookup x = some c → cells.lookup x = some c := by
  induction names with
  | nil => exact fun _ h e => h _ e
  | cons p r ih =>
    intro cs c hn h e
    have hn' := fun q hq => hn q (List.mem_cons_of_mem _ hq)
    rw [clOf_cons] at e
    by_cases hk : (p.2 == .free) = true
    · rw [if_pos hk] at e
      refine ih hn' (fun c' e' => ?_) e
      by_cases q : x = p.1
      · obtain ⟨c0, h0⟩ := hn p List.mem_cons_self (beq_iff_eq.mp hk)
        rw [q, List.lookup_cons_self, h0] at e'
        rw [q, h0]; exact e'
      · rw [lookup_ne (p := (p.1, (cells.lookup p.1).getD 0)) (beq_false_of_ne q)] at e'; exact h c' e'
    · rw [if_neg hk] at e
      exact ih hn' h e
theorem clOf_has {cells : List (Str × Addr)} {x : Str} {names : List (Str × NameKind)} : ∀ {cs : List (Str × Addr)}, ((x, .free) ∈ names ∨ ∃ c, cs.lookup x = some c) → ∃ c, (clOf cells names cs).lookup x = some c := by
  induction names with
  | nil => exact fun h => h.elim (fun q => absurd q List.not_mem_nil) id
  | cons p r ih =>
    intro cs h
    rw [clOf_cons]
    by_cases hk : (p.2 == .free) = true
    · rw [if_pos hk]
      refine ih ?_
      by_cases q : x = p.1
      · rw [q, List.lookup_cons_self]; exact .inr ⟨_, rfl⟩
      · rw [lookup_ne (p := (p.1, (cells.lookup p.1).getD 0)) (beq_false_of_ne q)]
        exact h.imp (fun h => (List.mem_cons.mp h).resolve_left fun e => q (congrArg Prod.fst e)) id
    · rw [if_neg hk]
      exact ih (h.imp (fun h => (List.mem_cons.mp h).resolve_left fun e => hk (by rw [← e]; rfl)) id)

theorem lookup_relabel {env : Env} {x : Str} : ∀ {names : List (Str × NameKind)},
    (names.map fun (n, k) => if (k == NameKind.free && env.scope.kind == .function && env.kindOf n == some .cell) then (n, NameKind.cell) else (n, k)).lookup x = (names.lookup x).map fun k => if (k == NameKind.free && env.scope.kind == .function && env.kindOf x == some .cell) then NameKind.cell else k := by
  intro names
  induction names with
  | nil => rfl
  | cons p r ih =>
    obtain ⟨n, k⟩ := p
    rw [List.map_cons]
    by_cases hx : x = n
    · subst hx
      rw [List.lookup_cons_self]
      by_cases hc : (k == NameKind.free && env.scope.kind == .function && env.kindOf x == some .cell) = true
      · show (List.lookup x ((if _ then (x, NameKind.cell) else (x, k)) :: _)) = some (if _ then _ else _)
        rw [if_pos hc, if_pos hc]; exact List.lookup_cons_self
      · show (List.lookup x ((if _ then (x, NameKind.cell) else (x, k)) :: _)) = some (if _ then _ else _)
        rw [if_neg hc, if_neg hc]; exact List.lookup_cons_self
    · rw [lookup_ne (p := (n, k)) (beq_false_of_ne hx), ← ih]
      refine lookup_ne ?_
      by_cases hc : (k == NameKind.free && env.scope.kind == .function && env.kindOf n == some .cell) = true
      · show (x == (if _ then (n, NameKind.cell) else (n, k)).1) = false
        rw [if_pos hc]; exact beq_false_of_ne hx
      · show (x == (if _ then (n, NameKind.cell) else (n, k)).1) = false
        rw [if_neg hc]; exact beq_false_of_ne hx

theorem lookup_around {names : Sc} {loc : Loc} {x : Str} {v : V} (h : (around names loc).lookup x = some v) : names.lookup x = some .free ∧ loc.lookup x = some v := by
  unfold around at h
  induction loc with
  | nil => exact noS h
  | cons p r ih =>
    rw [List.filter_cons] at h
    by_cases q : x = p.1
    · by_cases hf : (names.lookup p.1 == some .free) = true
      · rw [if_pos hf] at h
        exact ⟨q ▸ beq_iff_eq.mp hf, by rw [q, List.lookup_cons_self] at h ⊢; exact h⟩
      · rw [if_neg hf] at h
        exact absurd (beq_iff_eq.mpr (q ▸ (ih h).1)) hf
    · rw [lookup_ne (beq_false_of_ne q)]
      by_cases hf : (names.lookup p.1 == some .free) = true
      · rw [if_pos hf, lookup_ne (beq_false_of_ne q)] at h; exact ih h
      · rw [if_neg hf] at h; exact ih h

section
variable {pe : Pe} {cx : Cx} {n : Nat} {sc : Sc} {loc : Loc} {H H' : Hp} {x : V}

theorem compOk_of {scope : Scope} (h : compOk pe sc scope = true) : scope.kind = .function ∧ pe.lam scope.names = none ∧ (∀ p ∈ scope.names, p.2 ≠ .cell) ∧ (∀ p ∈ scope.names, p.2 = .free → sc.lookup p.1 = some .cell) ∧ (∀ p ∈ scope.names, p.2 = .local → scope.names.lookup p.1 = some .local) := by
  unfold compOk at h
  rw [Bool.and_eq_true, Bool.and_eq_true] at h
  obtain ⟨⟨h1, h2⟩, h3⟩ := h
  rw [List.all_eq_true] at h3
  refine ⟨of_decide_eq_true h1, Option.isNone_iff_eq_none.mp h2, fun p hp q => ?_, fun p hp q => ?_, fun p hp q => ?_⟩
  · have := h3 p hp; rw [q] at this; cases this
  · have := h3 p hp; rw [q] at this; exact beq_iff_eq.mp this
  · have := h3 p hp; rw [q] at this; exact beq_iff_eq.mp this

theorem Stp.dropL {as : List Addr} {ρ ρ' : Nat → Addr} {s s' : Shared} (S : Stp cx (· ∈ as) ρ H s ρ' H' s') (ha : ∀ a ∈ as, s.heap.get? a = none) : Stp cx NoW ρ H s ρ' H' s' :=
  ⟨S.inv, S.le, S.agr, S.fresh, fun b o e hm _ => S.ext b o e hm fun q => by rw [ha b q] at e; cases e⟩

/-- a comprehension's own frame goes behind it -/
theorem comp_done {ρ ρ' : Nat → Addr} {s s' : Shared} {C : Addr} {m} {h' : Heap} (S : Stp cx NoW ρ H s ρ' H' s') (hC : s.heap.get? C = none) (ap : ∀ i, i < H'.n → ρ' i ≠ C) (hg : cx.g.get? C = none) (hn : s'.heap.Ns C m) (hs : Heap.SameBut C s'.heap h') :
    Stp cx NoW ρ H s ρ' H' { s' with heap := h' } ∧ ∀ {v y}, Rep H'.n ρ' s'.heap v y → Rep H'.n ρ' h' v y := by
  have T : Stp cx (· ∈ [C]) ρ' H' s' ρ' H' { s' with heap := h' } := Stp.but _ S.inv (by simp) ap hg (nf_ns hn) hs.extBut rfl S.inv.bare
  refine ⟨Stp.dropL (as := [C]) ((S.weaken fun _ f => f.elim).thenW T) (fun a ha => by rw [List.mem_singleton.mp ha]; exact hC), fun q => q.mono (T.kp S.inv fun b o e hz w => ?_)⟩
  rw [List.mem_singleton.mp w] at e
  exact nf_ns hn o e hz

structure AccOk (cx : Cx) (newAcc : Sem Value) (em : Em) (ob : Obj) : Prop where
  new : ∀ {A s} {Q : Value → Shared → Prop} {E}, Q (.ref s.heap.objs.size) { s with heap := s.heap.push ob } → wpAny cx.M A newAcc Q E s
  cls : ob.cls = .type "list" ∨ ob.cls = .type "dict"
  nil : ∀ {n ρ h D}, h.get? D = some ob → RepO cx.prog cx.w n ρ h D (objOf em [])
  live : ob.isFreed = false

theorem RepO.cls {p w n ρ h D} {em : Em} {ys : List V} (q : RepO p w n ρ h D (objOf em ys)) : ∀ ob, h.get? D = Option.some ob → ob.cls = .type "list" ∨ ob.cls = .type "dict" := fun ob e => by
  cases em with
  | el =>
    obtain ⟨vs, k, e', _⟩ := q
    rw [e] at e'; cases e'; exact .inl rfl
  | kv =>
    obtain ⟨ps, ⟨o', es, k, e', hc, _⟩, _⟩ := q
    rw [e] at e'; cases e'; exact .inr hc.1

theorem comp_top (P : PeOk pe cx) {e : Expr} {em : Em} (C : CompT e em) {A : Around} {env : Env} {s : Shared} {ρ : Nat → Addr} {E} {newAcc : Sem Value} {ob : Obj} {scope : Scope} {target iter : Expr} {ifs : List Expr} {gens : List Comprehension} {pos : Pos}
    {it : V} {xs : List V} {src : Option Nat} {H1 H2 : Hp} {ys : List V} {use : Option (Value → Sem Unit)} {Q : Value → Shared → Prop}
    (C0 : Cn cx (n + 1) sc loc H A env ρ s) (hok : compOk pe sc scope = true) (hset : isSetE iter = false) (hcl : clausesOf e = ⟨target, iter, ifs, 0⟩ :: gens) (N : AccOk cx newAcc em ob)
    (h1 : GE cx n sc loc iter H it H1) (h2 : items H1 it = some (xs, src)) (hf : (tnames target).any (fun x => ((around scope.names loc).lookup x).isSome) = false) (h3 : GCl cx n scope.names em gens target ifs (around scope.names loc) src H1 xs H1 ys H2) (hl : ys.length ≤ lim)
    (hQ : ∀ s' ρ' D Cl m, Stp cx NoW ρ H s ρ' (H2.alloc (objOf em ys)) s' → Rep (H2.n + 1) ρ' s'.heap (.ref D) (.ref H2.n) → s'.heap.Ns Cl m → (∀ i, i < H2.n + 1 → ρ' i ≠ Cl) → s.heap.get? Cl = none → cx.g.get? Cl = none → ¬ Wr env Cl → compPost cx.M A E use Q (.ref D) Cl (.ok .next) s') :
    wpAny cx.M A (comprehension e scope env pos newAcc false (eval iter env) use) Q E s := by
  obtain ⟨a1, a2, I, X⟩ := id C0
  obtain ⟨hk, hlam, hnc, hfree, hloc⟩ := compOk_of hok
  have hcel : ∀ p ∈ scope.names, p.2 = .free → env.kindOf p.1 = some .cell ∧ ∃ c, env.cells.lookup p.1 = some c := fun p hp q => by
    have hk' : env.kindOf p.1 = some .cell := a2.kind' (hfree p hp q) (by decide)
    exact ⟨hk', X.has _ hk'⟩
  refine wpAny_comprehension_free hcl (notSet_folded hset) (closure_eq fun p hp q => (hcel p hp q).2) hk hloc ?_
  refine h1 C0.low fun u s1 ρ1 S1 r1 => ?_
  have X1 := X.step I S1
  refine it_start h2 S1.inv r1 fun a s2 ha S2 t2 => ?_
  refine N.new ?_
  refine wpAny_newFunctionEnv hnc (fun _ h => by simp at h) (fun h' hns hsb => ?_) hk
  dsimp only at hns hsb ⊢
  -- places
  obtain ⟨oa, _, _, ea, _, _, _, hza⟩ := t2.obj
  have hD2 : s2.heap.get? s2.heap.objs.size = none := get?_size _
  have hD1 : s1.heap.get? s2.heap.objs.size = none := by
    cases q : s1.heap.get? s2.heap.objs.size with
    | none => rfl
    | some ob =>
      by_cases hm : ∀ i, i < H1.n → ρ1 i ≠ s2.heap.objs.size
      · rw [S2.ext _ _ q hm (fun x => x)] at hD2; cases hD2
      · exfalso; refine hm fun i hi e => ?_
        obtain ⟨ob', e', _⟩ := (S2.inv.objs i hi).some
        rw [e, hD2] at e'; cases e'
  generalize hh3 : s2.heap.push ob = h3' at hns hsb
  have hD3 : h3'.get? s2.heap.objs.size = some ob := by rw [← hh3]; exact Heap.get?_push_size _ N.live
  have hsz3 : h3'.objs.size = s2.heap.objs.size + 1 := by rw [← hh3, Heap.size_push]
  have hC3 : h3'.get? h3'.objs.size = none := get?_size _
  have up34 : ∀ b ob, h3'.get? b = some ob → h'.get? b = some ob := fun b ob e => hsb.extBut b ob (fun q => by rw [q, hC3] at e; cases e) (Heap.get?_push_of_some _ e)
  have up24 : ∀ b ob, s2.heap.get? b = some ob → h'.get? b = some ob := fun b ob e => up34 b ob (by rw [← hh3]; exact Heap.get?_push_of_some _ e)
  have hC2 : s2.heap.get? h3'.objs.size = none := by
    cases q : s2.heap.get? h3'.objs.size with
    | none => rfl
    | some ob => exact absurd (Heap.lt_size q) (Nat.not_lt.mpr (by rw [hsz3]; exact Nat.le_succ _))
  have S24 : Stp cx NoW ρ1 H1 s2 ρ1 H1 { s2 with heap := h', toks := s2.toks + ([] : List (Str × Value)).length } := Stp.grown _ S2.inv up24 rfl S2.inv.bare
  have S14 := S2.trans S24
  have fr1 : ∀ b, s2.heap.get? b = none → s1.heap.get? b = none ∧ ∀ i, i < H1.n → ρ1 i ≠ b := fun b hb => by
    refine ⟨?_, (fresh_low S2.inv hb).2⟩
    cases q : s1.heap.get? b with
    | none => rfl
    | some ob => rw [S2.ext _ _ q (fresh_low S2.inv hb).2 (fun x => x)] at hb; cases hb
  have frs : ∀ b, s1.heap.get? b = none → s.heap.get? b = none := fun b hb => by
    cases q : s.heap.get? b with
    | none => rfl
    | some ob =>
      by_cases hm : ∀ i, i < H.n → ρ i ≠ b
      · rw [S1.ext _ _ q hm (fun x => x)] at hb; cases hb
      · exfalso; refine hm fun i hi e => ?_
        have := (fresh_low S1.inv hb).2 i (Nat.lt_of_lt_of_le hi S1.le)
        rw [S1.agr i hi] at this
        exact this e
  have hCa : h3'.objs.size ≠ a := fun q => by rw [q, ea] at hC2; cases hC2
  have hDa : a ≠ s2.heap.objs.size := fun q => by rw [q, hD2] at ea; cases ea
  have hCD : h3'.objs.size ≠ s2.heap.objs.size := by rw [hsz3]; exact Nat.ne_of_gt (Nat.lt_succ_self _)
  -- the frame
  show codeAny cx.M A (.compStart e 0 (.ref a) (.ref s2.heap.objs.size) (compEnvC scope (clOf env.cells scope.names []) h3'.objs.size env)) (compPost cx.M A E use Q (.ref s2.heap.objs.size) h3'.objs.size) _
  obtain ⟨cenv, hce⟩ : ∃ c, c = compEnvC scope (clOf env.cells scope.names []) h3'.objs.size env := ⟨_, rfl⟩
  rw [← hce]
  have eL : cenv.locals = h3'.objs.size := by rw [hce]; rfl
  have eC : cenv.cells = clOf env.cells scope.names [] := by rw [hce]; rfl
  have eK : ∀ y, cenv.kindOf y = (scope.names.lookup y).map fun k => if (k == NameKind.free && env.scope.kind == .function && env.kindOf y == some .cell) then NameKind.cell else k := fun y => by
    rw [hce]; exact lookup_relabel
  have kfree : ∀ y, scope.names.lookup y = some .free → cenv.kindOf y = some .cell ∧ env.kindOf y = some .cell := fun y e => by
    have h0 := hcel _ (mem_of_lookup e) rfl
    refine ⟨?_, h0.1⟩
    rw [eK, e, Option.map_some, h0.1, a2.kind]
    rfl
  have knot : ∀ y k, k ≠ .free → scope.names.lookup y = some k → cenv.kindOf y = some k := fun y k hne e => by
    rw [eK, e, Option.map_some]
    have : (k == NameKind.free) = false := by simpa using hne
    rw [this]; rfl
  have N2 : EnvOk cx cenv scope.names := by
    refine ⟨by rw [hce]; exact hk, fun y k e => ?_, by rw [hce]; exact a2.globals, by rw [hce]; exact a2.builtins, by rw [hce]; exact a2.code, fun c P' q e => ?_⟩
    · by_cases hf : k = .free
      · subst hf; exact .inr ⟨rfl, (kfree y e).1⟩
      · exact .inl (knot y k hf e)
    · rw [← P.lam, hlam] at e; cases e
  have cl_in : ∀ y c, cenv.cells.lookup y = some c → env.cells.lookup y = some c := fun y c e => by
    rw [eC] at e
    exact clOf_lookup (fun p hp q => (hcel p hp q).2) (fun _ q => by simp at q) e
  have cell_of : ∀ y, cenv.kindOf y = some .cell → scope.names.lookup y = some .free := fun y e => by
    rw [eK] at e
    cases hl : scope.names.lookup y with
    | none => rw [hl] at e; cases e
    | some k =>
      by_cases hf : k = .free
      · rw [hf]
      · have := knot y k hf hl
        rw [eK, e] at this
        have hk' : k = .cell := by simpa using this.symm
        exact absurd hk' (hnc _ (mem_of_lookup hl))
  have up14 : ∀ b ob, s1.heap.get? b = some ob → (∀ i, i < H1.n → ρ1 i ≠ b) → h'.get? b = some ob := fun b ob e hm => S14.ext b ob e hm (fun x => x)
  have aliveNe : ∀ c ob, s1.heap.get? c = some ob → (∀ i, i < H1.n → ρ1 i ≠ c) → c ≠ h3'.objs.size ∧ c ≠ a ∧ c ≠ s2.heap.objs.size := fun c ob e hm => by
    refine ⟨fun q => ?_, fun q => ?_, fun q => ?_⟩
    · rw [q, (fr1 _ hC2).1] at e; cases e
    · rw [q, ha] at e; cases e
    · rw [q, hD1] at e; cases e
  have X4 : Vars cx cenv H1.n ρ1 h' (around scope.names loc) := by
    refine ⟨⟨_, by rw [eL]; exact hns, fun y v e k => ?_⟩, fun y v e k => ?_, fun i hi => ?_, fun y c e => X1.apC y c (cl_in y c e), fun y c e => ?_, fun y e => ?_, fun y z c e1 e2 => X1.dist y z c (cl_in y c e1) (cl_in z c e2), ?_⟩
    · obtain ⟨e1, e2⟩ := lookup_around e
      rw [(kfree y e1).1] at k; cases k
    · obtain ⟨e1, e2⟩ := lookup_around e
      obtain ⟨c, u', h1, h2, h3⟩ := X1.cell y v e2 (.inl (kfree y e1).2)
      obtain ⟨c', hc'⟩ := clOf_has (cells := env.cells) (x := y) (names := scope.names) (cs := []) (.inl (mem_of_lookup e1))
      have : c' = c := by
        have := cl_in y c' (by rw [eC]; exact hc')
        rw [h1] at this; simpa using this.symm
      subst this
      exact ⟨c', u', by rw [eC]; exact hc', isCell_at h2 fun o' e' => up14 _ _ e' (X1.apC y c' h1), S14.rep S1.inv h3⟩
    · rw [eL]; exact (fresh_low S2.inv hC2).2 i hi
    · have e' := cl_in y c e
      obtain ⟨⟨v, hv⟩, h1, h2⟩ := X1.cells y c e'
      obtain ⟨o', ho', _⟩ := id hv
      exact ⟨⟨v, isCell_at hv fun o'' q => up14 _ _ q (X1.apC y c e')⟩, by rw [eL]; exact (aliveNe c o' ho' (X1.apC y c e')).1, h2⟩
    · rw [eC]; exact clOf_has (.inl (mem_of_lookup (cell_of y e)))
    · rw [eL]; exact (fresh_low S2.inv hC2).1
  have nWr : ∀ b, s1.heap.get? b = none → b ≠ h3'.objs.size → ¬ Wr cenv b := fun b hb hne w => by
    rcases w with w | ⟨y, w⟩
    · exact hne (w.trans eL)
    · obtain ⟨⟨v, o', ho', _⟩, _⟩ := X1.cells y b (cl_in y b w)
      rw [ho'] at hb; cases hb
  have Oa : Out cx cenv H1.n ρ1 h' a := ⟨⟨oa, up24 _ _ ea, hza⟩, (fresh_low S1.inv ha).2, nWr a ha (Ne.symm hCa), (fresh_low S1.inv ha).1⟩
  have hobz : ¬ Fz ob := fun hz => by
    rcases N.cls with q | q <;> (have hc := hz.1; rw [q] at hc; simp at hc)
  have OD : Out cx cenv H1.n ρ1 h' s2.heap.objs.size := ⟨⟨ob, up34 _ _ hD3, hobz⟩, (fr1 _ hD2).2, nWr _ hD1 (Ne.symm hCD), (fresh_low S2.inv hD2).1⟩
  have rD : RepO cx.prog cx.w H1.n ρ1 h' s2.heap.objs.size (objOf em []) := N.nil (up34 _ _ hD3)
  have t4 : ItAt H1.n ρ1 h' a 0 it := t2.mono (S24.kp S2.inv fun _ _ _ _ x => x) fun o' e' => up24 _ _ e'
  have hcl0 : (clausesOf e)[0]? = some ⟨target, iter, ifs, 0⟩ := by rw [hcl]; rfl
  have goal : codeAny cx.M A (.compLoop e 0 (.ref a) (.ref s2.heap.objs.size) cenv) (compPost cx.M A E use Q (.ref s2.heap.objs.size) h3'.objs.size) { s2 with heap := h', toks := s2.toks + ([] : List (Str × Value)).length } := by
    refine h3 hf (fun y q => hnc _ (mem_of_lookup q) rfl) C (iter := iter) (by rw [hcl]; rfl) h2 h2 List.drop_zero ⟨C0.low.ar, N2, S24.inv, X4⟩ t4 Oa OD hDa rD (by rw [List.length_nil, Nat.zero_add]; exact hl) fun s5 ρ5 S5 X5 O5 r5 => ?_
    rw [List.nil_append] at r5
    have S5' : Stp cx (· ∈ [h3'.objs.size, a, s2.heap.objs.size]) ρ1 H1 { s2 with heap := h', toks := s2.toks + ([] : List (Str × Value)).length } ρ5 H2 s5 := S5.weaken fun b q => by rw [← eL]; exact q
    have hnC : ∃ oc, h'.get? h3'.objs.size = some oc := by obtain ⟨oc, _, _, e, _⟩ := hns; exact ⟨oc, e⟩
    have S15 : Stp cx NoW ρ1 H1 s1 ρ5 H2 s5 := by
      refine Stp.dropL (as := [h3'.objs.size, a, s2.heap.objs.size]) ((S14.weaken fun _ f => f.elim).transW S5' fun i h1 h2 w => ?_) fun b hb => ?_
      · have hf := S5.fresh i h1 h2
        dsimp only at hf
        simp only [List.mem_cons, List.not_mem_nil, or_false] at w
        rcases w with w | w | w
        · obtain ⟨oc, e⟩ := hnC; rw [w, e] at hf; cases hf
        · rw [w, up24 _ _ ea] at hf; cases hf
        · rw [w, up34 _ _ hD3] at hf; cases hf
      · simp only [List.mem_cons, List.not_mem_nil, or_false] at hb
        rcases hb with rfl | rfl | rfl
        · exact (fr1 _ hC2).1
        · exact ha
        · exact hD1
    have S05 := S1.trans S15
    obtain ⟨m5, hn5, _⟩ := X5.ns
    rw [eL] at hn5
    have apC5 : ∀ i, i < H2.n → ρ5 i ≠ h3'.objs.size := fun i hi => by rw [← eL]; exact X5.apL i hi
    have K5 : Kp H2.n ρ5 s5.heap (H2.n + 1) (fun j => if j = H2.n then s2.heap.objs.size else ρ5 j) s5.heap := ⟨Nat.le_succ _, fun i hi => if_neg (Nat.ne_of_lt hi), fun _ _ e _ => e⟩
    have S6 := S05.adopt (s3 := s5) (o := objOf em ys) (frs _ hD1) S2.inv.neS O5.ap O5.low r5.cls (fun _ _ _ e => e) (r5.mono K5 rfl) rfl S15.inv.bare
    refine hQ s5 _ s2.heap.objs.size h3'.objs.size m5 S6 rep_new hn5 (fun i hi => ?_) (frs _ (fr1 _ hC2).1) (fresh_low S2.inv hC2).1 (fun w => ?_)
    · show (if i = H2.n then s2.heap.objs.size else ρ5 i) ≠ _
      by_cases hi' : i = H2.n
      · rw [if_pos hi']; exact Ne.symm hCD
      · rw [if_neg hi']; exact apC5 i (Nat.lt_of_le_of_ne (Nat.le_of_lt_succ hi) hi')
    · rcases w with w | ⟨y, w⟩
      · obtain ⟨m, ⟨oL, _, _, hoL, _⟩, _⟩ := X1.ns
        rw [← w, (fr1 _ hC2).1] at hoL; cases hoL
      · obtain ⟨⟨v, o', ho', _⟩, _⟩ := X1.cells y _ w
        rw [(fr1 _ hC2).1] at ho'; cases ho'
  refine comp_start C.toCompE hcl0 goal (it_self t4 goal)
end
end Mine
end
section
open PySem PySem.W PyProof.Rows PySem.SeqAt
namespace Mine

theorem setL_new {kvs : List (Str × V)} {k : Str} {x : V} (h : kvs.any (fun p => p.1 = k) = false) : setL kvs k x = kvs ++ [(k, x)] := by
  induction kvs with
  | nil => rfl
  | cons p r ih =>
    obtain ⟨y, u⟩ := p
    simp only [List.any_cons, Bool.or_eq_false_iff, decide_eq_false_iff_not] at h
    simp only [setL, if_neg h.1, List.cons_append, ih h.2]
theorem setL_old {kvs : List (Str × V)} {k : Str} {x : V} (hn : (kvs.map (·.1)).Nodup) (h : kvs.any (fun p => p.1 = k) = true) : setL kvs k x = kvs.map fun p => if p.1 = k then (p.1, x) else p := by
  induction kvs with
  | nil => simp at h
  | cons p r ih =>
    obtain ⟨y, u⟩ := p
    simp only [List.map_cons, List.nodup_cons] at hn
    by_cases hy : y = k
    · subst hy
      simp only [setL, if_true, List.map_cons, List.cons.injEq, true_and]
      refine (List.map_id r).symm.trans (List.map_congr_left fun p hp => ?_)
      have : p.1 ≠ y := fun q => hn.1 (by rw [← q]; exact List.mem_map_of_mem hp)
      rw [if_neg this]; rfl
    · simp only [List.any_cons, Bool.or_eq_true, decide_eq_true_eq] at h
      simp only [setL, if_neg hy, List.map_cons]
      rw [ih hn.2 (by rcases h with h | h; exact absurd h hy; exact h)]

theorem any_keys {ps : List (Str × Value)} {kvs : List (Str × V)} {k : Str} (hn : ps.map (·.1) = kvs.map (·.1)) : ps.any (fun p => p.1 = k) = kvs.any (fun p => p.1 = k) := by
  have h1 : ps.any (fun p => p.1 = k) = (ps.map (·.1)).any (fun y => y = k) := by rw [List.any_map]; rfl
  have h2 : kvs.any (fun p => p.1 = k) = (kvs.map (·.1)).any (fun y => y = k) := by rw [List.any_map]; rfl
  rw [h1, h2, hn]

theorem stored_rep {n ρ h} {k : Str} {v : Value} {x : V} (q : Rep n ρ h v x) : ∀ {ps : List (Str × Value)} {kvs : List (Str × V)}, (ps.map (·.1)).Nodup → ps.map (·.1) = kvs.map (·.1) → RepL n ρ h (ps.map (·.2)) (kvs.map (·.2)) →
    (stored ps k v).map (·.1) = (setL kvs k x).map (·.1) ∧ RepL n ρ h ((stored ps k v).map (·.2)) ((setL kvs k x).map (·.2)) := by
  intro ps kvs hd hn r
  unfold stored
  rw [any_keys hn]
  cases ha : kvs.any (fun p => p.1 = k) with
  | false =>
    rw [if_neg (by simp), setL_new ha]
    simp only [List.map_append, hn, List.map_cons, List.map_nil]
    exact ⟨trivial, r.snoc q⟩
  | true =>
    rw [if_pos rfl, setL_old (hn ▸ hd) ha]
    clear ha hd
    induction ps generalizing kvs with
    | nil =>
      cases kvs with
      | nil => exact ⟨rfl, .nil⟩
      | cons b c => simp at hn
    | cons p ps ih =>
      cases kvs with
      | nil => simp at hn
      | cons b c =>
        simp only [List.map_cons, List.cons.injEq] at hn
        cases r with
        | cons r1 r2 =>
          obtain ⟨h1, h2⟩ := ih hn.2 r2
          obtain ⟨p1, p2⟩ := p
          obtain ⟨b1, b2⟩ := b
          simp only at hn
          obtain ⟨rfl, hn⟩ := hn
          simp only [List.map_cons]
          by_cases hk : p1 = k
          · simp only [if_pos hk]
            exact ⟨by simp only [List.cons.injEq, true_and]; exact h1, .cons q h2⟩
          · simp only [if_neg hk]
            exact ⟨by simp only [List.cons.injEq, true_and]; exact h1, .cons r1 h2⟩

theorem dict_nodup {p : Program} {w : World} {h : Heap} {a : Addr} {ps : List (Str × Value)} (x : h.DictOf (PySem.strKind p w) a ps) : (ps.map (·.1)).Nodup := by
  obtain ⟨o, es, ep, ho, hc, hd, hk, hp, hn⟩ := x
  exact hn

section
variable {pe : Pe} {cx : Cx} {n : Nat} {sc : Sc} {loc : Loc} {H H' : Hp} {x : V}

theorem dictL_snoc (ys : List V) (k : Str) (v : V) : dictL (ys ++ [.tup [.str k, v]]) = setL (dictL ys) k v := List.foldl_append ..
theorem foldl_len (ys : List V) : ∀ (d : List (Str × V)), (ys.foldl (fun d p => setL d (kvOf p).1 (kvOf p).2) d).length ≤ d.length + ys.length := by
  induction ys with
  | nil => intro d; exact Nat.le_refl _
  | cons p r ih =>
    intro d
    have := ih (setL d (kvOf p).1 (kvOf p).2)
    have h2 := (length_setL d (kvOf p).1 (kvOf p).2).2.1
    rw [List.foldl_cons, List.length_cons]; lia
theorem dictL_len (ys : List V) : (dictL ys).length ≤ ys.length := Nat.zero_add ys.length ▸ foldl_len ys []

theorem nf_list {h : Heap} {a : Addr} {o : Obj} (e : h.get? a = some o) (hc : o.cls = .type "list" ∨ o.cls = .type "dict") : ¬ Fz o := fun hz => by
  rcases hz.1 with q | q | q | q | q <;> rw [q] at hc <;> simp at hc

theorem nxt_none {e : Expr} {depth : Nat} (h : (clausesOf e).drop (depth + 1) = []) : (clausesOf e)[depth + 1]? = none := drop_nil h
variable {H1 H2 : Hp} {v : V}
theorem in_lst {elt : Expr} (h1 : GE cx n sc loc elt H v H1) : GIn cx n sc (.el elt) [] loc H [v] H1 := fun _ {A env ρ s D e depth ys0 Q E kk} C hd c O rD hl hQ => by
  rw [nxt_none hd]
  refine wpAny_bind (m := emitL elt (.ref D) env) ?_
  unfold emitL
  refine wpAny_bind (h1 c fun u s1 ρ1 S1 r1 => ?_)
  have O1 := O.step S1 id
  obtain ⟨vs, k, ho, q⟩ := RepO.stepW c.inv S1 (fun _ _ _ _ x => x) id O.ap rD
  refine wpAny_bind (wpAny_list_append_plain ⟨k, ho⟩ (fun h' hp hs => wpAny_pure ?_) (by rw [size_of q, ← lim_eq]; exact Nat.le_trans (Nat.le_add_right _ _) hl))
  obtain ⟨k', ho'⟩ := hp
  have S2 : Stp cx (· = D) ρ1 H1 s1 ρ1 H1 { s1 with heap := h' } := Stp.but _ S1.inv rfl O1.ap O1.low O1.nf hs.extBut rfl S1.inv.bare
  have K2 := S2.kp S1.inv fun b o e hz w => O1.nf o (w ▸ e) hz
  have X1 := c.vars.step c.inv S1
  refine hQ _ ρ1 ((S1.weaken fun _ f => f.elim).thenW S2.oneC) (X1.stepW S1.inv S2 (fun b w e => O1.nw (e ▸ w)) (not_fz O1)) ⟨⟨_, ho', nf_list ho' (.inl rfl)⟩, O1.ap, O1.nw, O1.low⟩ ⟨_, _, ho', ?_⟩
  rw [Array.toList_push]
  exact (q.mono K2).snoc (r1.mono K2)

theorem in_dct {k x : Expr} {ks : Str} (h1 : GE cx n sc loc k H (.str ks) H1) (h2 : GE cx n sc loc x H1 v H2) : GIn cx n sc (.kv k x) [] loc H [.tup [.str ks, v]] H2 := fun _ {A env ρ s D e depth ys0 Q E kk} C hd c O rD hl hQ => by
  rw [nxt_none hd]
  refine wpAny_bind (m := emitD k x (.ref D) env) ?_
  unfold emitD
  refine wpAny_bind (h1 c fun u s1 ρ1 S1 r1 => ?_)
  obtain ⟨tk, rfl⟩ := r1.inv_str
  refine wpAny_bind (wpAny_holding (h2 (c.step S1) fun u2 s2 ρ2 S2 r2 => ?_))
  have S12 := S1.trans S2
  have O2 := O.step S12 id
  obtain ⟨ps, hd, hn, q⟩ := RepO.stepW c.inv S12 (fun _ _ _ _ x => x) id O.ap rD
  have hz : ps.length ≤ sizeLine := by
    rw [map_len hn, ← lim_eq]
    exact Nat.le_trans (dictL_len ys0) (Nat.le_trans (Nat.le_add_right _ _) hl)
  refine wpAny_bind (wpAny_standAt (wpAny_holding (wpAny_dictSet_pairs (k := ks) (is_str ks tk) hd (fun h' hd' hs => ?_) hz)))
  have S3 : Stp cx (· = D) ρ2 H2 s2 ρ2 H2 { s2 with heap := h', toks := s2.toks + 1 } := Stp.but _ S2.inv rfl O2.ap O2.low O2.nf hs.extBut rfl S2.inv.bare
  have K3 := S3.kp S2.inv fun b o e hz w => O2.nf o (w ▸ e) hz
  obtain ⟨g1, g2⟩ := stored_rep (k := ks) (r2.mono K3) (dict_nodup hd) hn (q.mono K3)
  obtain ⟨od, _, _, hod, hex, _⟩ := id hd'
  have X2 := c.vars.step c.inv S12
  refine hQ _ ρ2 ((S12.weaken fun _ f => f.elim).thenW S3.oneC) (X2.stepW S2.inv S3 (fun b w e => O2.nw (e ▸ w)) (not_fz O2)) ⟨⟨od, hod, nf_list hod (.inr hex.1)⟩, O2.ap, O2.nw, O2.low⟩ ?_
  show RepO _ _ _ _ _ _ (.dict (dictL (ys0 ++ [.tup [.str ks, v]])))
  rw [dictL_snoc]
  exact ⟨_, hd', g1, g2⟩

theorem acc_list {elt : Expr} : AccOk cx (newList []) (.el elt) { cls := .type "list", data := .seq #[] } where
  new := fun h => wpAny_newObj_type h
  cls := .inl rfl
  nil := fun e => ⟨_, _, e, .nil⟩
  live := rfl
theorem acc_dict {k v : Expr} : AccOk cx newDict (.kv k v) { cls := .type "dict", data := .dict #[] } where
  new := fun h => wpAny_newObj_type h
  cls := .inr rfl
  nil := fun e => ⟨[], ⟨_, #[], 0, e, ⟨rfl, rfl, rfl⟩, rfl, fun e he => (by simp at he), .nil, .nil⟩, rfl, .nil⟩
  live := rfl

variable {elt target iter k y : Expr} {ifs : List Expr} {gens : List Comprehension} {scope : Scope} {pos : Pos} {it : V} {xs ys : List V} {src : Option Nat}
theorem c_LC (P : PeOk pe cx) (hok : compOk pe sc scope = true) (hset : isSetE iter = false) (h1 : GE cx n sc loc iter H it H1) (h2 : items H1 it = some (xs, src)) (hf : (tnames target).any (fun x => ((around scope.names loc).lookup x).isSome) = false) (h3 : GCl cx n scope.names (.el elt) gens target ifs (around scope.names loc) src H1 xs H1 ys H2) (hl : ys.length ≤ lim) (e : H2.alloc (.list ys) = H') :
    GE cx (n + 1) sc loc (.ListComp elt (⟨target, iter, ifs, 0⟩ :: gens) scope pos) H (.ref H2.n) H' ∧ GC cx (n + 1) sc loc (.ListComp elt (⟨target, iter, ifs, 0⟩ :: gens) scope pos) H (.ref H2.n) H' := by
  subst e
  constructor
  · intro A env ρ s Q E C hQ
    rw [eval_ListComp]
    refine comp_top (use := none) P (compT_L _ _ _ _) C hok hset rfl acc_list h1 h2 hf h3 hl fun s' ρ' D Cl m S q hn ap hC hg _ => ?_
    exact ⟨m, hn, fun h' hs => let z := comp_done S hC ap hg hn hs; hQ _ _ _ z.1 (z.2 q)⟩
  · intro A env ρ s u Q E C hQ
    show wpAny cx.M A (do let _ ← comprehension (.ListComp elt (⟨target, iter, ifs, 0⟩ :: gens) scope pos) scope env _ (newList []) false (eval iter env) (some u)) Q E s
    refine wpAny_bind (comp_top (use := some u) P (compT_L _ _ _ _) C hok hset rfl acc_list h1 h2 hf h3 hl fun s' ρ' D Cl m S q hn ap hC hg nw => ?_)
    refine wpAny_mono (hQ _ _ _ Cl m S q hn ap hC hg nw) (fun _ s'' z => ?_) fun _ _ z => z
    obtain ⟨m', h1, h2⟩ := z
    exact ⟨m', h1, fun h' hs => wpAny_pure (h2 h' hs)⟩
theorem c_DC (P : PeOk pe cx) (hok : compOk pe sc scope = true) (hset : isSetE iter = false) (h1 : GE cx n sc loc iter H it H1) (h2 : items H1 it = some (xs, src)) (hf : (tnames target).any (fun x => ((around scope.names loc).lookup x).isSome) = false) (h3 : GCl cx n scope.names (.kv k y) gens target ifs (around scope.names loc) src H1 xs H1 ys H2) (hl : ys.length ≤ lim) (e : H2.alloc (.dict (dictL ys)) = H') :
    GE cx (n + 1) sc loc (.DictComp k y (⟨target, iter, ifs, 0⟩ :: gens) scope pos) H (.ref H2.n) H' ∧ GC cx (n + 1) sc loc (.DictComp k y (⟨target, iter, ifs, 0⟩ :: gens) scope pos) H (.ref H2.n) H' := by
  subst e
  constructor
  · intro A env ρ s Q E C hQ
    rw [arm_eval_DictComp]
    refine comp_top (use := none) P (compT_D _ _ _ _ _) C hok hset rfl acc_dict h1 h2 hf h3 hl fun s' ρ' D Cl m S q hn ap hC hg _ => ?_
    exact ⟨m, hn, fun h' hs => let z := comp_done S hC ap hg hn hs; hQ _ _ _ z.1 (z.2 q)⟩
  · intro A env ρ s u Q E C hQ
    show wpAny cx.M A (do let _ ← comprehension (.DictComp k y (⟨target, iter, ifs, 0⟩ :: gens) scope pos) scope env _ newDict false (eval iter env) (some u)) Q E s
    refine wpAny_bind (comp_top (use := some u) P (compT_D _ _ _ _ _) C hok hset rfl acc_dict h1 h2 hf h3 hl fun s' ρ' D Cl m S q hn ap hC hg nw => ?_)
    refine wpAny_mono (hQ _ _ _ Cl m S q hn ap hC hg nw) (fun _ s'' z => ?_) fun _ _ z => z
    obtain ⟨m', h1, h2⟩ := z
    exact ⟨m', h1, fun h' hs => wpAny_pure (h2 h' hs)⟩
end
end Mine
end
section
open PySem PySem.W PyProof.Rows PySem.SeqAt
namespace Mine
section
variable {pe : Pe} {cx : Cx} {n : Nat} {sc : Sc} {loc : Loc} {H H' : Hp} {x : V}

/-- soundness of an f-string's parts -/
noncomputable def GJ (cx : Cx) (n : Nat) (sc : Sc) (loc : Loc) (es : List Expr) (out : Str) (H : Hp) (t : Str) (H' : Hp) : Prop :=
  (out.length ≤ lim → t.length ≤ lim) ∧ ∀ {A env ρ s} {Q : Str → Shared → Prop} {E}, Cn cx n sc loc H A env ρ s → (∀ s' ρ', Stp cx NoW ρ H s ρ' H' s' → Q t s') → Joins cx.M A E (evalEach es env) out Q s
variable {H1 H2 : Hp} {a b : Expr} {es : List Expr} {out y t : Str} {pos : Pos}
theorem e_Fmt (h1 : GE cx n sc loc a H (.str y) H1) (hl : y.length ≤ lim) : GE cx (n + 1) sc loc (.FormattedValue a (-1) none pos) H (.str y) H1 := fun C hQ => by
  refine wpAny_FormattedValue_plain (h1 C.low fun w s1 ρ1 S1 r1 => ?_)
  obtain ⟨tk, rfl⟩ := r1.inv_str
  exact wpAny_formatField_str (hQ _ _ _ S1 r1) (hQ _ _ _ (S1.trans (Stp.toks _ S1.inv)) (.str _ _)) (lim_eq ▸ hl)
theorem j_nil : GJ cx n sc loc [] out H out H := ⟨id, fun C hQ => hQ _ _ (Stp.refl _ C.inv)⟩
theorem j_cons (h1 : GE cx n sc loc a H (.str y) H1) (hl : out.length + y.length ≤ lim) (h2 : GJ cx n sc loc es (out ++ y) H1 t H2) : GJ cx n sc loc (a :: es) out H t H2 := by
  refine ⟨fun _ => h2.1 (strLen_append .. ▸ hl), fun {A env ρ s Q E} C hQ => ?_⟩
  show wpAny cx.M A (eval a env) _ E s
  refine h1 C fun u s1 ρ1 S1 r1 => ?_
  obtain ⟨tk, rfl⟩ := r1.inv_str
  exact ⟨_, _, rfl, by rw [strLen_append, ← lim_eq]; exact hl, h2.2 (C.step S1) fun s2 ρ2 S2 => hQ s2 ρ2 (S1.trans S2)⟩
theorem e_Joined (h : GJ cx n sc loc (a :: b :: es) Str.empty H t H1) : GE cx (n + 1) sc loc (.JoinedStr (a :: b :: es) pos) H (.str t) H1 := fun C hQ =>
  wpAny_JoinedStr (h.2 C.low fun s1 ρ1 S1 => ⟨lim_eq ▸ h.1 (Nat.zero_le _), hQ _ _ _ (S1.trans (Stp.toks _ S1.inv)) (.str _ _)⟩)

/-- what getItem gives on a value that has a built-in __getitem__ -/
theorem sub_go {A : Around} {E} {s : Shared} {value slice : Expr} {o i : Value} {T id : String} {Q : Value → Shared → Prop} (hT : s.TypeIs o T) (hl : typeLookup (.type T) "__getitem__" = pure (some (.builtin id)))
    (h : wpAny cx.M A (getItem o i) Q E s) : wpAny cx.M A (getitemInPython o >>= fun b => subscripted slice b o i >>= fun r => letTemporaryGo value o r >>= fun _ => pure r) Q E s := by
  rw [getitemInPython_of_ne hT.not_modules]
  refine wpAny_bind (wpAny_bind (wpAny_specialOf hT hl (wpAny_pure ?_)))
  have fin : ∀ vs, wpAny cx.M A (operate vs (getItem o i)) (fun r s₃ => wpAny cx.M A (letTemporaryGo value o r >>= fun _ => pure r) Q E s₃) E s := fun vs =>
    wpAny_operating (wpAny_mono h (fun r s₃ h₃ => wpAny_bind (wpAny_letTemporaryGo (wpAny_pure h₃))) fun _ _ x => x)
  refine wpAny_bind ?_
  cases slice with
  | Slice a b c d => cases c <;> exact fin _
  | _ => exact fin _

theorem atIdx_spec {xs : List V} {k : Int} {y : V} (h : atIdx xs k = some y) : -1000000 < k ∧ k < 1000000 ∧ ∃ j, seqIndex? k xs.length = some j ∧ xs[j]? = some y ∧ ((0 ≤ k ∧ j = k.toNat) ∨ (k < 0 ∧ -(xs.length : Int) ≤ k ∧ j = (k + xs.length).toNat)) := by
  unfold atIdx at h
  split at h
  · cases h
  · rename_i hk
    simp only [Decidable.not_not] at hk
    split at h
    · rename_i h0
      have hlt : k.toNat < xs.length := (List.getElem?_eq_some_iff.mp h).1
      refine ⟨hk.1, hk.2, k.toNat, ?_, h, .inl ⟨h0, rfl⟩⟩
      unfold seqIndex?
      have : ¬ k < 0 := by lia
      simp only [if_neg this]
      rw [if_pos (by simp only [Bool.and_eq_true, decide_eq_true_eq]; lia)]
    · rename_i h0
      split at h
      · rename_i h1
        have hlt : (↑xs.length + k).toNat < xs.length := (List.getElem?_eq_some_iff.mp h).1
        refine ⟨hk.1, hk.2, (k + xs.length).toNat, ?_, by rw [Int.add_comm]; exact h, .inr ⟨by lia, by lia, rfl⟩⟩
        unfold seqIndex?
        have : k < 0 := by lia
        simp only [if_pos this]
        rw [if_pos (by simp only [Bool.and_eq_true, decide_eq_true_eq]; lia)]
      · cases h

theorem s_index (hg : HasSys cx) {A : Around} {E} {s : Shared} {ρ : Nat → Addr} {o i y : V} {u w : Value} {value slice : Expr} {Q : Value → Shared → Prop} (h : index H o i = some y) (I : Inv cx ρ H s) (ro : Rep H.n ρ s.heap u o) (ri : Rep H.n ρ s.heap w i)
    (hQ : ∀ v s', Stp cx NoW ρ H s ρ H s' → Rep H.n ρ s'.heap v y → Q v s') : wpAny cx.M A (getitemInPython u >>= fun b => subscripted slice b u w >>= fun r => letTemporaryGo value u r >>= fun _ => pure r) Q E s := by
  cases o with
  | ref j =>
    obtain ⟨hi, rfl⟩ := ro.inv_ref
    have h : idxO (H.f j) i = some y := h
    generalize hf : H.f j = o at h
    cases o with
    | list xs =>
      cases i with
      | int k =>
        obtain ⟨t, rfl⟩ := ri.inv_int
        obtain ⟨vs, kk, e, q⟩ := I.list hi hf
        obtain ⟨h1, h2, j, _, hj, hc⟩ := atIdx_spec h
        obtain ⟨v, hv, rv⟩ := q.get j hj
        have hz := size_of q
        refine sub_go (T := "list") ⟨_, e, rfl⟩ list_getitem_lookup ?_
        rcases hc with ⟨h0, rfl⟩ | ⟨h0, hle, rfl⟩
        · exact wpAny_getItem_list (isList_of e) h0 (Int.lt_trans h2 (by decide)) (Array.getElem?_toList ▸ hv) (hQ _ _ (Stp.refl _ I) rv)
        · exact wpAny_getItem_list_neg (isList_of e) h0 (by rw [hz]; exact hle) (Int.le_trans (by decide) (Int.le_of_lt h1)) (by rw [hz]; exact Array.getElem?_toList ▸ hv) (hQ _ _ (Stp.refl _ I) rv)
      | _ => first | exact noS h | exact noB h | cases h
    | dict kvs =>
      cases i with
      | str k =>
        obtain ⟨t, rfl⟩ := ri.inv_str
        obtain ⟨ps, hd, hn, q⟩ := I.dict hi hf
        obtain ⟨v, hv, rv⟩ := (lookup_rep hn q _).1 _ h
        exact sub_go (T := "dict") hd.typeIs F.slot_dict_getitem.lookup (wpAny_getItem_of (knd := PySem.strKind cx.prog cx.w) (is_str _ t) hd.mapOf (by rw [valueAt_lookup]; exact hv) (hQ _ _ (Stp.toks _ I) rv))
      | _ => first | exact noS h | exact noB h | cases h
    | _ => first | exact noS h | exact noB h | cases h
  | tup xs =>
    cases i with
    | int k =>
      obtain ⟨a, vs, kk, rfl, e, q⟩ := ro.inv_tup
      obtain ⟨t, rfl⟩ := ri.inv_int
      obtain ⟨h1, h2, j, hs, hj, _⟩ := atIdx_spec h
      obtain ⟨v, hv, rv⟩ := q.get j hj
      exact sub_go (T := "tuple") ⟨_, e, rfl⟩ F.slot_tuple_getitem.lookup (P.getItem_tuple e (Int.le_trans (by decide) (Int.le_of_lt h1)) (Int.lt_trans h2 (by decide)) (by rw [size_of q]; exact hs) (Array.getElem?_toList ▸ hv) (hQ _ _ (Stp.refl _ I) rv))
    | _ => first | exact noS h | exact noB h | cases h
  | _ => first | exact noS h | exact noB h | cases h

theorem o_none : GO cx n sc loc none H none H := fun C hQ => wpAny_pure (hQ _ _ _ (Stp.refl _ C.inv) .none)
theorem o_some {k : Int} (h1 : GE cx n sc loc a H (.int k) H1) : GO cx n sc loc (some a) H (some k) H1 := fun {A env ρ s Q E} C hQ => by
  show wpAny cx.M A (eval a env) Q E s
  refine h1 C fun u s1 ρ1 S1 r1 => ?_
  obtain ⟨t, rfl⟩ := r1.inv_int
  exact hQ _ _ _ S1 (.int _ _)
theorem isPart_tok {v : Value} {l : Option Int} (h : IsPart v l) : ∃ lt : Option (Int × Tok), lt.map (·.1) = l ∧ v = partValue lt := by
  cases h with
  | none => exact ⟨none, rfl, rfl⟩
  | int i t => exact ⟨some (i, t), rfl, rfl⟩

theorem not_slice {i : Expr} (h : isSlice i = false) {a b c : Option Expr} {p : Pos} : i ≠ .Slice a b c p := fun e => by rw [e] at h; cases h
theorem e_Idx (P : PeOk pe cx) {o i : Expr} {u w : V} (h1 : GE cx n sc loc o H u H1) (h2 : GE cx n sc loc i H1 w H2) (h3 : index H2 u w = some x) : GE cx (n + 1) sc loc (.Subscript o i pos) H x H2 := fun C hQ => by
  rw [arm_eval_Subscript]
  exact wpAny_bind (h1 C.low fun ov s1 ρ1 S1 r1 => wpAny_bind (wpAny_holding (h2 (C.low.step S1) fun iv s2 ρ2 S2 r2 => wpAny_bind (wpAny_standAt (s_index P.sys h3 S2.inv (S2.rep S1.inv r1) r2 fun v s3 S3 r3 => hQ v s3 ρ2 ((S1.trans S2).trans S3) r3)))))

/-- a slice of a list -/
theorem slice_list {A : Around} {E} {s : Shared} {ρ : Nat → Addr} {o : Addr} {ws : Array Value} {xs : List V} {l hi st : Option Int} {vl vu vs : Value} {sl : Addr} {Q : Value → Shared → Prop} (I : Inv cx ρ H s) (hL : s.heap.IsList o ws) (hS : s.heap.IsSliceOf sl vl vu vs) (p2 : IsPart vl l) (p3 : IsPart vu hi) (p4 : IsPart vs st) (hc : st ≠ some 0) (hz : xs.length ≤ lim)
    (q : RepL H.n ρ s.heap ws.toList xs) (hQ : ∀ v s' ρ', Stp cx NoW ρ H s ρ' (H.alloc (.list (cutV xs l hi st))) s' → Rep (H.n + 1) ρ' s'.heap v (.ref H.n) → Q v s') : wpAny cx.M A (getItem (.ref o) (.ref sl)) Q E s := by
  refine wpAny_getItem_list_slice hL hS p2 p3 p4 hc (hQ _ _ (fun j => if j = H.n then s.heap.objs.size else ρ j) (Stp.newList I ?_) rep_new) (by rw [size_of q, ← lim_eq]; exact hz)
  have e1 : (slicePick ws l hi st).toList = (sliceRange (sliceBounds l hi st xs.length).1 (sliceBounds l hi st xs.length).2.1 (sliceBounds l hi st xs.length).2.2).filterMap (ws.toList[·]?) := by
    unfold slicePick; rw [size_of q]; simp
  rw [e1]
  exact q.pick _
theorem e_Slice (P : PeOk pe cx) {o : Expr} {ps : Pos} {a b c : Option Expr} {l hi st : Option Int} {u : V} {H3 H4 : Hp} (h1 : GE cx n sc loc o H u H1) (h2 : GO cx n sc loc a H1 l H2) (h3 : GO cx n sc loc b H2 hi H3) (h4 : GO cx n sc loc c H3 st H4) (h5 : Slc pe H4 u l hi st x H') : GE cx (n + 1) sc loc (.Subscript o (.Slice a b c ps) pos) H x H' := fun {A env ρ s Q E} C hQ => by
  rw [arm_eval_Subscript]
  refine wpAny_bind (h1 C.low fun ov s1 ρ1 S1 r1 => wpAny_bind (wpAny_holding (wpAny_Slice ?_)))
  refine h2 (C.low.step S1) fun vl s2 ρ2 S2 p2 => h3 ((C.low.step S1).step S2) fun vu s3 ρ3 S3 p3 => h4 (((C.low.step S1).step S2).step S3) fun vs s4 ρ4 S4 p4 => wpAny_bind (wpAny_standAt ?_)
  have r4 := ((S2.trans S3).trans S4).rep S1.inv r1
  have S5 : Stp cx NoW ρ4 H4 s4 ρ4 H4 { s4 with heap := s4.heap.push { cls := .type "slice", data := .fields #[vl, vu, vs] } } := Stp.grown _ S4.inv (fun _ _ e => Heap.get?_push_of_some _ e) rfl S4.inv.bare
  have hS : (s4.heap.push { cls := .type "slice", data := .fields #[vl, vu, vs] }).IsSliceOf s4.heap.objs.size vl vu vs := ⟨_, Heap.get?_push_size _ rfl, rfl, rfl⟩
  have go := fun v s' ρ' S r => hQ v s' ρ' (((((S1.trans S2).trans S3).trans S4).trans S5).trans S) r
  cases h5 with
  | lst hl hc e =>
    subst e; cases r4.inv_fn
    obtain ⟨hlen, ws, hL, rws⟩ := P.lst hl
    have hLs := hL.at fun o e => S5.inv.keep _ o e
    exact sub_go (T := "list") hLs.typeIs list_getitem_lookup (slice_list S5.inv hLs hS p2 p3 p4 hc (by rw [List.length_map]; exact Nat.le_trans hlen (by decide)) (rws _ _ _) go)
  | list hf hc hl e =>
    subst e; obtain ⟨hj, rfl⟩ := r4.inv_ref
    obtain ⟨ws, kk, e, q⟩ := S5.inv.list hj hf
    exact sub_go (T := "list") ⟨_, e, rfl⟩ list_getitem_lookup (slice_list S5.inv (isList_of e) hS p2 p3 p4 hc hl q go)
  | str hl =>
    obtain ⟨t, rfl⟩ := r4.inv_str
    cases p4
    obtain ⟨lt, rfl, rfl⟩ := isPart_tok p2
    obtain ⟨ut, rfl, rfl⟩ := isPart_tok p3
    exact sub_go (T := "str") (typeIs_str _ _ _) F.slot_str_getitem.lookup (wpAny_getItem_str_slice (l := lt) (u := ut) (st := none) hS rfl (post_val_or_str ⟨Nat.le_trans (Txt.slice_le _ _ _) (by rw [← lim_eq]; exact hl), fun t' k => go _ _ _ (Stp.toks _ S5.inv) (.str _ _)⟩))
end
end Mine
end
section
open PySem PySem.W PyProof.Rows PySem.SeqAt
namespace Mine
section
variable {pe : Pe} {cx : Cx} {n : Nat} {sc : Sc} {loc loc1 loc' : Loc} {H H' H1 H2 H3 : Hp} {x u v w : V} {fl : Fl} {a o i : Expr} {pos p : Pos}

theorem Stp.toW {W : Addr → Prop} {ρ ρ' : Nat → Addr} {s s' : Shared} (S : Stp cx NoW ρ H s ρ' H' s') : Stp cx W ρ H s ρ' H' s' := S.weaken fun _ f => f.elim
theorem Stp.seqW {env : Env} {ρ ρ1 ρ2 : Nat → Addr} {s s1 s2 : Shared} {H1 H2 : Hp} {loc1 : Loc} (S : Stp cx (Wr env) ρ H s ρ1 H1 s1) (X1 : Vars cx env H1.n ρ1 s1.heap loc1) (T : Stp cx (Wr env) ρ1 H1 s1 ρ2 H2 s2) : Stp cx (Wr env) ρ H s ρ2 H2 s2 :=
  S.transW T fun i h1 h2 w => X1.notW T i h1 h2 w
theorem noSwap {e : Expr} {t : Option Expr} {line : Nat} {env : Env} (h : isCompE e = false) : swapsWith e t line env = pure false := by
  cases e <;> first | rfl | cases h

theorem x_Expr (hc : isCompE a = false) (h1 : GE cx n sc loc a H u H1) : GX cx (n + 1) sc (.Expr a pos) loc H .next loc H1 := fun C hQ => by
  refine wpAny_Expr_any (h1 C.low fun u s1 ρ1 S1 r1 => hQ _ _ _ S1.toW (C.vars.step C.inv S1) .next) ?_ (noSwap hc)
  unfold interactive
  rw [C.en.kind]; rfl
theorem x_Brk : GX cx (n + 1) sc (.Break pos) loc H .brk loc H := fun {A env ρ s Q E} C hQ => by
  show wpAny _ _ (do standAt pos; pure .brk) Q E s
  exact wpAny_bind (wpAny_standAt (wpAny_pure (hQ _ _ _ (Stp.refl _ C.inv) C.vars .brk)))
theorem x_Ret0 : GX cx (n + 1) sc (.Return none pos) loc H (.ret .none) loc H := fun C hQ => wpAny_Return_none (hQ _ _ _ (Stp.refl _ C.inv) C.vars (.ret .none))
theorem x_Ret (h1 : GE cx n sc loc a H u H1) : GX cx (n + 1) sc (.Return (some a) pos) loc H (.ret u) loc H1 := fun C hQ => wpAny_Return_some (h1 C.low fun u s1 ρ1 S1 r1 => hQ _ _ _ S1.toW (C.vars.step C.inv S1) (.ret r1))
theorem x_If {y z : List Stmt} {t : Bool} (h1 : GT cx n sc loc a H t H1) (h2 : GXs cx n sc (bif t then y else z) loc H1 fl loc' H2) : GX cx (n + 1) sc (.If a y z pos) loc H fl loc' H2 := fun {A env ρ s Q E} C hQ => by
  refine wpAny_If (h1 C.low fun s1 ρ1 S1 => ?_)
  have g := h2 (Q := Q) (E := E) (C.low.step S1) fun f s2 ρ2 S2 X2 r2 => hQ _ _ _ (Stp.seqW S1.toW (C.vars.step C.inv S1) S2) X2 r2
  cases t <;> exact g
theorem x_Try {body : List Stmt} {h0 : ExceptHandler} {hs : List ExceptHandler} (h : GXs cx n sc body loc H fl loc' H1) : GX cx (n + 1) sc (.Try body (h0 :: hs) [] [] pos) loc H fl loc' H1 := fun C hQ => by
  refine wpAny_Try_except (h C.low fun f s2 ρ2 S2 X2 r2 => ?_)
  have := hQ _ _ _ S2 X2 r2
  cases r2 with
  | next => exact wpAny_execs_nil this
  | _ => exact this

theorem s_aug {A : Around} {s : Shared} {ρ : Nat → Addr} {E} {op : Operator} {a b y : V} {u v : Value} {Q : Value → Shared → Prop} (ho : augOk a = true) (h : Bin H op a b y H') (I : Inv cx ρ H s) (ra : Rep H.n ρ s.heap u a) (rb : Rep H.n ρ s.heap v b)
    (hQ : ∀ w s', Stp cx NoW ρ H s ρ H' s' → Rep H'.n ρ s'.heap w y → Q w s') : wpAny cx.M A (inplaceOp op u v) Q E s := by
  cases h with
  | addS hl =>
    obtain ⟨t, rfl⟩ := ra.inv_str; obtain ⟨t', rfl⟩ := rb.inv_str
    exact SB.iadd (fun t' k => hQ _ _ (Stp.toks _ I) (.str _ _)) (lim_eq ▸ hl)
  | addI =>
    obtain ⟨t, rfl⟩ := ra.inv_int; obtain ⟨t', rfl⟩ := rb.inv_int
    exact AutoIntOps.iadd_0 (hQ _ _ (Stp.toks _ I) (.int _ _))
  | subI =>
    obtain ⟨t, rfl⟩ := ra.inv_int; obtain ⟨t', rfl⟩ := rb.inv_int
    exact AutoIntOps.isub_0 (hQ _ _ (Stp.toks _ I) (.int _ _))
  | divI hy =>
    obtain ⟨t, rfl⟩ := ra.inv_int; obtain ⟨t', rfl⟩ := rb.inv_int
    exact AutoIntOps.ifloordiv_1 (by simp; lia) (by rw [PyProof.noPylong_small (natAbs_small hy)]; simp) (Int.fdiv_eq_ediv_of_nonneg _ (Int.le_of_lt hy.1) ▸ hQ _ _ (Stp.toks _ I) (.int _ _))
  | modI hy =>
    obtain ⟨t, rfl⟩ := ra.inv_int; obtain ⟨t', rfl⟩ := rb.inv_int
    exact AutoIntOps.imod_1 (by simp; lia) (Int.fmod_eq_emod_of_nonneg _ (Int.le_of_lt hy.1) ▸ hQ _ _ (Stp.toks _ I) (.int _ _))
  | _ => first | exact noS ho | exact noB ho | cases ho
theorem x_Aug (P : PeOk pe cx) {id : Str} {op : Operator} {old : V} (ho : own sc id = true) (h0 : look pe sc loc id = some old) (ha : augOk old = true) (h1 : GE cx n sc loc a H u H1) (h2 : Bin H1 op old u v H2) : GX cx (n + 1) sc (.AugAssign (.Name id p) op a pos) loc H .next (setL loc id v) H2 := fun {A env ρ s Q E} C hQ => by
  refine wpAny_AugAssign_Name (s_load P h0 C.en C.inv C.vars fun u r0 => h1 C.low fun u1 s1 ρ1 S1 r1 => s_aug ha h2 S1.inv (S1.rep C.inv r0) r1 fun u2 s2 S2 r2 => ?_)
  have X2 := C.vars.step C.inv (S1.trans S2)
  exact s_store (WrOk.wr sc env) ho C.en S2.inv X2 r2 fun s3 S3 _ X3 => hQ _ _ _ (Stp.seqW (S1.trans S2).toW X2 S3) X3 .next

theorem s_setAttr (P : PeOk pe cx) {A : Around} {E} {s : Shared} {ρ : Nat → Addr} {name : Str} {v y : V} {d : Nat} {o u : Value} {Q : Unit → Shared → Prop} (h : instOf pe H name v = some d) (hp : putN H d name y (H.f d) = some H') (I : Inv cx ρ H s) (ro : Rep H.n ρ s.heap o v) (ry : Rep H.n ρ s.heap u y)
    (hQ : ∀ s', Stp cx NoW ρ H s ρ H' s' → Q () s') : wpAny cx.M A (setAttr o name u) Q E s := by
  cases v with
  | ref i =>
    obtain ⟨hi, rfl⟩ := ro.inv_ref
    have h : instO pe name (H.f i) = some d := h
    generalize hf : H.f i = o at h
    cases o with
    | inst C e =>
      obtain ⟨m, hm, rfl⟩ := map_some h
      generalize hd : H.f e = o at hp
      cases o with
      | ns kvs =>
        obtain ⟨hl, rfl⟩ := ite_some hp
        exact s_setInst P hi hf hd hm hl I ry hQ
      | _ => first | exact noS hp | exact noB hp | cases hp
    | _ => first | exact noS h | exact noB h | cases h
  | _ => first | exact noS h | exact noB h | cases h

theorem s_setItem {A : Around} {E} {s : Shared} {ρ : Nat → Addr} {d : Nat} {k : Str} {t : Tok} {y : V} {u : Value} {Q : Unit → Shared → Prop} (hi : d < H.n) (hp : putD H d k y (H.f d) = some H') (I : Inv cx ρ H s) (ry : Rep H.n ρ s.heap u y)
    (hQ : ∀ s', Stp cx NoW ρ H s ρ H' s' → Q () s') : wpAny cx.M A (setItem (.ref (ρ d)) (.str k t) u) Q E s := by
  generalize hf : H.f d = o at hp
  cases o with
  | dict kvs =>
    obtain ⟨hl, rfl⟩ := ite_some hp
    obtain ⟨ps, hd, hn, q⟩ := I.dict hi hf
    refine wpAny_setItem_pairs (knd := PySem.strKind cx.prog cx.w) (is_str k t) hd (fun h' hd' hs => ?_) (by rw [map_len hn, ← lim_eq]; exact Nat.le_of_lt hl)
    have K : Kp H.n ρ s.heap H.n ρ h' := ⟨Nat.le_refl _, fun _ _ => rfl, fun a o e hc => hs.extBut a o (fun q => I.notMut e hc d hi q.symm) e⟩
    obtain ⟨g1, g2⟩ := stored_rep (k := k) (ry.mono K) (dict_nodup hd) hn (q.mono K)
    exact hQ _ (Stp.put _ I hi hs ⟨_, hd', g1, g2⟩ rfl I.bare)
  | _ => first | exact noS hp | exact noB hp | cases hp

theorem a_Bind {t : Expr} (h : bindT sc H t u loc = some loc') : GA cx n sc t u loc H loc' H := fun {A env ρ s u Q E} C q hQ => bindT_sound (WrOk.wr sc env) C.ar.handled C.en h C.inv C.vars q fun s1 S1 _ X1 => hQ _ _ S1 X1
theorem a_Attr (P : PeOk pe cx) {name : Str} {d : Nat} (h1 : GE cx n sc loc o H w H1) (h2 : instOf pe H1 name w = some d) (h3 : putN H1 d name u (H1.f d) = some H2) : GA cx n sc (.Attribute o name p) u loc H loc H2 := fun C q hQ => by
  rw [arm_assign_Attribute]
  refine wpAny_bind (wpAny_holding (h1 C fun o s1 ρ1 S1 r1 => wpAny_bind (wpAny_standAt (wpAny_bind (wpAny_holding (s_setAttr P h2 h3 S1.inv r1 (S1.rep C.inv q) fun s2 S2 => wpAny_release ?_))))))
  exact hQ _ _ (S1.trans S2).toW (C.vars.step C.inv (S1.trans S2))
theorem a_Sub {d : Nat} {k : Str} (h1 : GE cx n sc loc o H (.ref d) H1) (h2 : GE cx n sc loc i H1 (.str k) H2) (h3 : putD H2 d k u (H2.f d) = some H3) : GA cx n sc (.Subscript o i p) u loc H loc H3 := fun C q hQ => by
  rw [arm_assign_Subscript]
  refine wpAny_bind (wpAny_holding (h1 C fun o s1 ρ1 S1 r1 => wpAny_bind (wpAny_holding (h2 (C.step S1) fun i s2 ρ2 S2 r2 => wpAny_bind (wpAny_standAt (wpAny_bind (wpAny_holding ?_)))))))
  obtain ⟨t, rfl⟩ := r2.inv_str
  obtain ⟨hd, rfl⟩ := (S2.rep S1.inv r1).inv_ref
  refine s_setItem hd h3 S2.inv ((S1.trans S2).rep C.inv q) fun s3 S3 => wpAny_release ?_
  exact hQ _ _ ((S1.trans S2).trans S3).toW (C.vars.step C.inv ((S1.trans S2).trans S3))

theorem assignEach_plain {t : Expr} {ts : List Expr} {env : Env} (h : isStar t = false) : assignEach (t :: ts) env = (false, assign t env) :: assignEach ts env := by
  cases t <;> first | rfl | cases h
theorem as_one {t : Expr} (hs : isStar t = false) (h1 : GA cx n sc t u loc H loc' H1) : GAs cx n sc [t] u loc H loc' H1 := fun C q hQ => by
  rw [assignEach_plain hs]; exact h1 C q hQ
theorem as_cons {t t2 : Expr} {ts : List Expr} (hs : isStar t = false) (hs2 : isStar t2 = false) (h1 : GA cx n sc t u loc H loc1 H1) (h2 : GAs cx n sc (t2 :: ts) u loc1 H1 loc' H2) : GAs cx n sc (t :: t2 :: ts) u loc H loc' H2 := fun {A env ρ s u Q E} C q hQ => by
  have go : ∀ s1 ρ1, Stp cx (Wr env) ρ H s ρ1 H1 s1 → Vars cx env H1.n ρ1 s1.heap loc1 → wpAny cx.M A (assignAll u ((assignEach (t2 :: ts) env).map (·.2))) Q E s1 := fun s1 ρ1 S1 X1 =>
    h2 (C.to S1.inv X1) (C.vars.rep C.inv S1 q) fun s2 ρ2 S2 X2 => hQ _ _ (Stp.seqW S1 X1 S2) X2
  rw [assignEach_plain hs2] at go
  rw [assignEach_plain hs, assignEach_plain hs2]
  show wpAny cx.M A (do holding [u] (assign t env u); assignAll u (((false, assign t2 env) :: assignEach ts env).map (·.2))) Q E s
  exact wpAny_bind (wpAny_holding (h1 C q go))
end
end Mine
end
section
open PySem PySem.W PyProof.Rows PySem.SeqAt
namespace Mine
section
variable {pe : Pe} {cx : Cx} {n : Nat} {sc : Sc} {loc loc' : Loc} {H H' H1 H2 : Hp} {x u : V} {a : Expr} {pos : Pos} {ts : List Expr}

/-- the names bound one behind another -/
noncomputable def setAll (loc : Loc) (ns : List Str) (vs : List V) : Loc := (ns.zip vs).foldl (fun l p => setL l p.1 p.2) loc

theorem setAll_lookup {y : Str} {v : V} {ns : List Str} : ∀ {ws : List V} {loc : Loc}, ns.Nodup → ns.length = ws.length → ((setAll loc ns ws).lookup y = some v ↔ (y, v) ∈ ns.zip ws ∨ (y ∉ ns ∧ loc.lookup y = some v)) := by
  induction ns with
  | nil => exact fun {ws loc} _ _ => ⟨fun h => .inr ⟨List.not_mem_nil, h⟩, fun h => h.elim (fun q => absurd q List.not_mem_nil) (·.2)⟩
  | cons a ns ih =>
    intro ws loc hn hl
    cases ws with
    | nil => exact Nat.noConfusion hl
    | cons w ws =>
      obtain ⟨hn1, hn2⟩ := List.nodup_cons.mp hn
      have h := ih (loc := setL loc a w) hn2 (Nat.succ.inj hl)
      rw [lookup_setL] at h
      refine Iff.trans h ?_
      show _ ↔ (y, v) ∈ (a, w) :: ns.zip ws ∨ _
      by_cases ha : y = a
      · subst ha
        rw [if_pos rfl]
        refine ⟨fun h => h.elim (fun h => .inl (.tail _ h)) fun h => .inl (Option.some.inj h.2 ▸ .head _), fun h => h.elim (fun h => (List.mem_cons.mp h).elim (fun h => .inr ⟨hn1, congrArg (fun p => some p.2) h.symm⟩) .inl) fun h => absurd List.mem_cons_self h.1⟩
      · rw [if_neg ha]
        exact ⟨fun h => h.elim (fun h => .inl (.tail _ h)) fun h => .inr ⟨fun q => (List.mem_cons.mp q).elim ha h.1, h.2⟩, fun h => h.elim (fun h => (List.mem_cons.mp h).elim (fun h => absurd (congrArg Prod.fst h) ha) .inl) fun h => .inr ⟨fun q => h.1 (.tail _ q), h.2⟩⟩

theorem bindTs_setAll {ts : List Expr} : ∀ {xs : List V} {loc loc' : Loc}, bindTs sc ts xs loc = some loc' → loc' = setAll loc (ts.filterMap isName) xs ∧ (ts.filterMap isName).length = xs.length ∧ ts.length = xs.length := by
  induction ts with
  | nil => intro xs loc loc' h; obtain ⟨rfl, rfl⟩ := bindTs_nil h; exact ⟨rfl, rfl, rfl⟩
  | cons t ts ih =>
    intro xs loc loc' h
    obtain ⟨id, p, z, zs, rfl, rfl, ho, h⟩ := bindTs_cons h
    obtain ⟨h1, h2, h3⟩ := ih h
    refine ⟨?_, ?_, by simp [h3]⟩
    · rw [h1]; rfl
    · exact congrArg (· + 1) h2

theorem names_sound {A : Around} {env : Env} {ρ : Nat → Addr} {E} (a2 : EnvOk cx env sc) {ns : List Str} : ∀ {ws : List V} {us : List Value} {loc : Loc} {s : Shared} {Q : Unit → Shared → Prop}, (∀ y ∈ ns, env.kindOf y = some .local) → ns.length = ws.length → Inv cx ρ H s → Vars cx env H.n ρ s.heap loc → RepL H.n ρ s.heap us ws →
    (∀ s', Stp cx (Wr env) ρ H s ρ H s' → Vars cx env H.n ρ s'.heap (setAll loc ns ws) → Q () s') → wpAny cx.M A (assignInOrder (ns.map fun y => bindName env y) us) Q E s := by
  induction ns with
  | nil =>
    intro ws us loc s Q _ hl I X q hQ
    cases q with
    | nil => exact wpAny_pure (hQ s (Stp.refl _ I) X)
    | cons => exact Nat.noConfusion hl
  | cons y ns ih =>
    intro ws us loc s Q hk hl I X q hQ
    cases q with
    | nil => exact Nat.noConfusion hl
    | cons q1 q2 =>
      refine wpAny_bind (wpAny_holding ?_)
      unfold bindName
      refine wpAny_bind (wpAny_holding (wpAny_point (wpAny_bind ?_)))
      refine s_store' (W := Wr env) (.inl rfl) (fun c _ e => .inr ⟨y, e⟩) (.inl (hk y List.mem_cons_self)) a2.kind I X q1 fun s1 S1 _ X1 => wpAny_point ?_
      exact ih (fun z hz => hk z (List.mem_cons_of_mem _ hz)) (Nat.succ.inj hl) S1.inv X1 (X.repL I S1 q2) fun s2 S2 X2 => hQ s2 (S1.thenW S2) X2

theorem RepL.reverse {n ρ h} : ∀ {vs xs}, RepL n ρ h vs xs → RepL n ρ h vs.reverse xs.reverse
  | _, _, .nil => .nil
  | _, _, .cons a b => by simp only [List.reverse_cons]; exact (RepL.reverse b).snoc a

theorem zip_rev {α β : Type} {l : List α} : ∀ {m : List β}, l.length = m.length → l.reverse.zip m.reverse = (l.zip m).reverse := by
  induction l with
  | nil => exact fun _ => rfl
  | cons a l ih =>
    intro m h
    cases m with
    | nil => exact Nat.noConfusion h
    | cons b m =>
      have h := Nat.succ.inj h
      rw [List.reverse_cons, List.reverse_cons, List.zip_append (by rw [List.length_reverse, List.length_reverse]; exact h), ih h]
      exact (List.reverse_cons ..).symm

/-- the names whose stores are exchanged -/
noncomputable def nameIn (env : Env) (line : Nat) : Expr → Option Str
  | .Name id pos => if env.kindOf id == some .local && pos.line == line then some id else none
  | _ => none
theorem swap_names {env : Env} (N : EnvOk cx env sc) {line : Nat} : ∀ {ts : List Expr}, ts.all (swapT sc line) = true → (ts.filterMap (nameIn env line)) = ts.filterMap isName ∧ (ts.filterMap isName).length = ts.length ∧ ∀ y ∈ ts.filterMap isName, env.kindOf y = some .local := by
  intro ts
  induction ts with
  | nil => exact fun _ => ⟨rfl, rfl, fun _ h => absurd h List.not_mem_nil⟩
  | cons t ts ih =>
    intro h
    rw [List.all_cons, Bool.and_eq_true] at h
    obtain ⟨h1, h2, h3⟩ := ih h.2
    cases t with
    | Name id p =>
      have hh := Bool.and_eq_true_iff.mp h.1
      have hk : env.kindOf id = some .local := N.kind' (beq_iff_eq.mp hh.1) (by decide)
      refine ⟨?_, congrArg (· + 1) h2, fun y hy => (List.mem_cons.mp hy).elim (fun e => e ▸ hk) (h3 y)⟩
      exact (List.filterMap_cons_some (f := nameIn env line) (a := .Name id p) (b := id) (if_pos (by rw [hk, hh.2]; rfl))).trans (congrArg (id :: ·) h1)
    | _ => first | exact noS h.1 | exact noB h.1 | cases h.1
theorem swap_stores {env : Env} (N : EnvOk cx env sc) {vs : List Expr} {b : Nat} {p q : Pos} {c : Nat} (h : swapOk sc ts vs = true) : swappedStores [.Tuple ts b p] (.Tuple vs c q) env = pure (some (ts.filterMap isName)) ∧ (ts.filterMap isName).Nodup ∧ (∀ y ∈ ts.filterMap isName, env.kindOf y = some .local) := by
  unfold swapOk at h
  simp only [Bool.and_eq_true, Bool.not_eq_true', decide_eq_true_eq] at h
  obtain ⟨⟨⟨⟨⟨⟨⟨h1, h2⟩, h3⟩, h4⟩, h5⟩, h6⟩, h7⟩, h8⟩ := h
  obtain ⟨g1, g2, g3⟩ := swap_names N h4
  refine ⟨?_, h6, g3⟩
  have hbk : (env.blockKind != .function) = false := by unfold Env.blockKind; rw [N.kind]; rfl
  have hvl : (vs.length != ts.length) = false := by unfold bne; rw [h2]; rfl
  have h5'' : ((ts.filterMap isName).eraseDups.length != ts.length) = false := by unfold bne; rw [← g2, h5]; rfl
  refine (if_neg (by rw [h1, hvl, hbk]; exact Bool.false_ne_true)).trans ?_
  refine (if_neg (ne_true_of_eq_false h3)).trans ?_
  show (if (((ts.filterMap (nameIn env ((ts.head?.map (·.pos.line)).getD 0))).length != ts.length) || ((ts.filterMap (nameIn env ((ts.head?.map (·.pos.line)).getD 0))).eraseDups.length != (ts.filterMap (nameIn env ((ts.head?.map (·.pos.line)).getD 0))).length)) = true then pure none else if vs.all (foldedForSure 8) = true then pure none else if vs.all (constantsAlone 8) = true then _ else pure (some (ts.filterMap (nameIn env ((ts.head?.map (·.pos.line)).getD 0))))) = _
  rw [g1]
  refine (if_neg (by rw [g2, h5'', bne_self_eq_false]; exact Bool.false_ne_true)).trans ?_
  exact (if_neg (ne_true_of_eq_false h7)).trans (if_neg (ne_true_of_eq_false h8))
theorem x_AsgT {vs : List Expr} {b c : Nat} {p q : Pos} {xs : List V} (h : swapOk sc ts vs = true) (h1 : GE cx n sc loc (.Tuple vs c q) H (.tup xs) H1) (h2 : bindTs sc ts xs loc = some loc') : GX cx (n + 1) sc (.Assign [.Tuple ts b p] (.Tuple vs c q) pos) loc H .next loc' H1 := fun {A env ρ s Q E} C hQ => by
  obtain ⟨hw, hnd, hk⟩ := swap_stores (vs := vs) (b := b) (c := c) (p := p) (q := q) C.en h
  obtain ⟨e1, e2, e3⟩ := bindTs_setAll h2
  rw [exec_Assign_arm]
  refine wpAny_bind (wpAny_standAt (wpAny_bind (wpAny_of_eq (show swapsWithSole [.Tuple ts b p] (.Tuple vs c q) pos.line env = pure false from rfl) ?_)))
  rw [if_neg Bool.false_ne_true]
  refine wpAny_bind (h1 C.low fun u s1 ρ1 S1 r1 => ?_)
  refine wpAny_bind (wpAny_of_eq hw ?_)
  show wpAny cx.M A (do
    rule "assign.swapped-stores"
    let items ← unpackItems u (ts.filterMap isName).length none
    assignInOrder ((ts.filterMap isName).reverse.map fun n => bindName env n) items.reverse
    pure .next) Q E s1
  refine wpAny_bind (wpAny_rule (wpAny_bind ?_))
  rw [e2]
  refine unp_sound C.ar.handled rfl S1.inv r1 fun us s2 S2 r2 => ?_
  have X2 := (C.vars.step C.inv S1).step S1.inv S2
  refine wpAny_bind (names_sound C.en (fun y hy => hk y (List.mem_reverse.mp hy)) (by rw [List.length_reverse, List.length_reverse]; exact e2) S2.inv X2 r2.reverse fun s3 S3 X3 => wpAny_pure ?_)
  refine hQ _ _ _ (Stp.seqW (S1.trans S2).toW X2 S3) (X3.congr fun y w hy => ?_) .next
  rw [e1, setAll_lookup hnd e2] at hy
  rw [setAll_lookup (List.pairwise_reverse.mpr (hnd.imp Ne.symm)) (by rw [List.length_reverse, List.length_reverse]; exact e2), zip_rev e2]
  exact hy.imp List.mem_reverse.mpr fun hy => ⟨fun q => hy.1 (List.mem_reverse.mp q), hy.2⟩

theorem swap_sole {env : Env} {line : Nat} (h : isCompE a = false) : swapsWithSole ts a line env = pure false := by
  match ts with
  | [] => rfl
  | [t] => exact noSwap h
  | _ :: _ :: _ => rfl
theorem x_Asg (hc : isCompE a = false) (hw : ∀ env, swappedStores ts a env = pure none) (h1 : GE cx n sc loc a H u H1) (h2 : GAs cx n sc ts u loc H1 loc' H2) : GX cx (n + 1) sc (.Assign ts a pos) loc H .next loc' H2 := fun {A env ρ s Q E} C hQ => by
  rw [exec_Assign_arm]
  refine wpAny_bind (wpAny_standAt (wpAny_bind (wpAny_of_eq (swap_sole hc) ?_)))
  rw [if_neg Bool.false_ne_true]
  refine wpAny_bind (h1 C.low fun u s1 ρ1 S1 r1 => wpAny_bind (wpAny_of_eq (hw env) ?_))
  show wpAny cx.M A (do assignAll u ((assignEach ts env).map (·.2)); pure .next) Q E s1
  exact wpAny_bind (h2 (C.low.step S1) r1 fun s2 ρ2 S2 X2 => wpAny_pure (hQ _ _ _ (Stp.seqW S1.toW (C.vars.step C.inv S1) S2) X2 .next))
theorem swap_dec {y : Str} {yp : Pos} {line : Nat} {env : Env} : ∃ b, swapsWithSole [.Name y yp] a line env = pure b := by
  cases a <;> exact ⟨_, rfl⟩
theorem x_AsgC {y : Str} {yp : Pos} (h1 : GE cx n sc loc a H u H1 ∧ GC cx n sc loc a H u H1) (h2 : GAs cx n sc [.Name y yp] u loc H1 loc' H2) : GX cx (n + 1) sc (.Assign [.Name y yp] a pos) loc H .next loc' H2 := fun {A env ρ s Q E} C hQ => by
  rw [exec_Assign_arm]
  obtain ⟨b, hb⟩ := swap_dec (a := a) (y := y) (yp := yp) (line := pos.line) (env := env)
  refine wpAny_bind (wpAny_standAt (wpAny_bind (wpAny_of_eq hb ?_)))
  cases b with
  | true =>
    rw [if_pos rfl]
    refine wpAny_bind (h1.2 C.low fun v' s1 ρ1 Cl m S1 r1 hn ap hC hg nw => ?_)
    have X1 := C.vars.step C.inv S1
    refine h2 (C.low.step S1) r1 fun s2 ρ2 S2 X2 => ?_
    have hn2 : s2.heap.Ns Cl m := hn.at' fun o e => S2.ext Cl o e ap nw
    obtain ⟨oc, _, _, hoc, _⟩ := id hn
    refine ⟨m, hn2, fun h' hs => wpAny_pure ?_⟩
    have O2 : Out cx env H2.n ρ2 s2.heap Cl := ⟨⟨oc, S2.ext Cl oc hoc ap nw, nf_ns hn oc hoc⟩, S2.old hoc ap, nw, hg⟩
    have T : Stp cx (· = Cl) ρ2 H2 s2 ρ2 H2 { s2 with heap := h' } := Stp.but _ S2.inv rfl O2.ap hg (nf_ns hn2) hs.extBut rfl S2.inv.bare
    have S12 := Stp.seqW (S1.toW (W := Wr env)) X1 S2
    have S13 : Stp cx (fun b => Wr env b ∨ b = Cl) ρ H s ρ2 H2 { s2 with heap := h' } := (S12.weaken fun b q => .inl q).thenW (T.weaken fun b q => .inr q)
    exact hQ _ _ _ (S13.dropA hC) (X2.same S2.inv T O2) .next
  | false =>
    rw [if_neg Bool.false_ne_true]
    refine wpAny_bind (h1.1 C.low fun u s1 ρ1 S1 r1 => wpAny_bind (wpAny_of_eq (a := none) rfl ?_))
    show wpAny cx.M A (do assignAll u ((assignEach [.Name y yp] env).map (·.2)); pure .next) Q E s1
    exact wpAny_bind (h2 (C.low.step S1) r1 fun s2 ρ2 S2 X2 => wpAny_pure (hQ _ _ _ (Stp.seqW S1.toW (C.vars.step C.inv S1) S2) X2 .next))

open Builtin Builtin.List in
theorem del_all {A : Around} {E} {s : Shared} {l sl : Addr} {items : Array Value} {k : Nat} {Q : Unit → Shared → Prop} (ho : s.heap.get? l = some { cls := .type "list", data := .seq items k }) (hs : s.heap.IsSliceOf sl .none .none .none) (hsz : items.size ≤ sizeLine)
    (hQ : ∀ h' k', h'.get? l = some { cls := .type "list", data := .seq #[] k' } → Heap.SameBut l s.heap h' → Q () { s with heap := h' }) : wpAny cx.M A (delItem (.ref l) (.ref sl)) Q E s := by
  obtain ⟨os, hos, hcs, hds⟩ := id hs
  have hTs : s.TypeIs (.ref sl) "slice" := ⟨os, hos, hcs⟩
  refine wpAny_delItem_slot ⟨_, ho, rfl⟩ (by decide) F.slot_list_delitem ?_
  refine wpAny_call_entry F.slot_list_delitem ⟨_, ho, rfl⟩ F.entry_list_delitem ?_ (F.args_list_delitem_2 _ _)
  show wpAny _ _ (Builtin.List.listSubscript? (.ref sl) >>= _) _ _ s
  refine wpAny_bind ?_
  unfold Builtin.List.listSubscript?
  refine wpAny_bind (wpAny_specialOf hTs slice_no_index ?_)
  simp only [Option.isNone_none, if_true]
  refine wpAny_pure ?_
  show wpAny _ _ (typeOf (.ref sl) >>= _) _ _ s
  refine wpAny_bind (wpAny_typeOf hTs ?_)
  rw [if_neg (by decide)]
  rw [listSliceParts_eq]
  refine wpAny_bind (wpAny_bind (wpAny_field hos hds (x := .none) rfl (wpAny_bind (wpAny_listPart .none ?_))))
  rw [if_neg (by decide)]
  refine wpAny_bind (wpAny_field hos hds (x := .none) rfl (wpAny_bind (wpAny_listPart .none ?_)))
  refine wpAny_bind (wpAny_field hos hds (x := .none) rfl (wpAny_bind (wpAny_listPart .none (wpAny_pure ?_))))
  refine wpAny_bind (m := Builtin.List.listItems (.ref l)) ?_
  unfold Builtin.List.listItems
  refine wpAny_bind (wpAny_seqItems ho rfl (wpAny_pure ?_))
  refine wpAny_bind (wpAny_of_eq (sliceIndices_raw none none none items.size (by simp)) ?_)
  refine wpAny_bind (wpAny_rule (wpAny_bind ?_))
  have key : ∀ (sel : Nat → Bool), (∀ k, k < items.size → sel k = true) → (items.toList.zipIdx.filterMap fun x : Value × Nat => if sel x.2 = true then none else some x.1).toArray = #[] := fun sel hsel => by
    have : (items.toList.zipIdx.filterMap fun x : Value × Nat => if sel x.2 = true then none else some x.1) = [] := by
      rw [List.filterMap_eq_nil_iff]
      intro p hp
      have := List.snd_lt_of_mem_zipIdx hp
      rw [if_pos (hsel _ (by simpa using this))]
    rw [this]
  show wpAny _ _ (updateSeq l _) _ _ s
  refine wpAny_updateSeq ho rfl ?_ hsz ?_
  · refine wpAny_bind (wpAny_letGo (wpAny_pure ⟨_, rfl, hQ _ (if (#[] : Array Value).size == items.size then k else k + 1) ?_ (Heap.SameBut.update ..)⟩))
    refine (Heap.get?_update_self _ ho rfl).trans ?_
    refine congrArg (fun a : Array Value => some ({ cls := .type "list", data := .seq a (if a.size == items.size then k else k + 1) } : Obj)) ?_
    refine key _ fun k hk => ?_
    show (if (1 : Int) > 0 then decide ((0 : Int) ≤ (k : Int)) && decide ((k : Int) < (items.size : Int)) && ((k : Int) - 0) % 1 == 0 else _) = true
    simp [Int.emod_one]
    lia
  · refine Nat.le_trans (Nat.le_of_eq ?_) (Nat.zero_le _)
    refine (congrArg Array.size (key _ fun k hk => ?_)).trans rfl
    show (if (1 : Int) > 0 then decide ((0 : Int) ≤ (k : Int)) && decide ((k : Int) < (items.size : Int)) && ((k : Int) - 0) % 1 == 0 else _) = true
    simp [Int.emod_one]
    lia

theorem x_Del {o : Expr} {p q : Pos} {i : Nat} {xs : List V} (h1 : GE cx n sc loc o H (.ref i) H1) (hf : H1.f i = .list xs) (hl : xs.length ≤ lim) (e : H1.put i (.list []) = H2) : GX cx (n + 1) sc (.Delete [.Subscript o (.Slice none none none p) q] pos) loc H .next loc H2 := fun {A env ρ s Q E} C hQ => by
  subst e
  refine wpAny_Delete (wpAny_deleteEach_cons ?_)
  rw [arm_delete_Subscript]
  refine wpAny_bind (h1 C.low fun u s1 ρ1 S1 r1 => wpAny_bind (wpAny_holding (wpAny_Slice ?_)))
  refine wpAny_pure (wpAny_pure (wpAny_pure (wpAny_bind (wpAny_standAt (wpAny_bind (wpAny_holding ?_))))))
  obtain ⟨hi, rfl⟩ := r1.inv_ref
  have S2 : Stp cx NoW ρ1 H1 s1 ρ1 H1 { s1 with heap := s1.heap.push { cls := .type "slice", data := .fields #[.none, .none, .none] } } := Stp.grown _ S1.inv (fun _ _ e => Heap.get?_push_of_some _ e) rfl S1.inv.bare
  obtain ⟨vs, k, e, qq⟩ := S2.inv.list hi hf
  refine del_all e ⟨_, Heap.get?_push_size _ rfl, rfl, rfl⟩ (by rw [size_of qq, ← lim_eq]; exact hl) fun h' k' e' hs => wpAny_release (wpAny_deleteEach_nil ?_)
  have S3 := Stp.setList (xs := []) (vs := #[]) (k := k') (s' := { s1 with heap := h' }) S2.inv hi hs e' .nil rfl S1.inv.bare
  exact hQ _ _ _ ((S1.trans S2).trans S3).toW (C.vars.step C.inv ((S1.trans S2).trans S3)) .next
end
end Mine
end
section
open PySem PySem.W PyProof.Rows PySem.SeqAt
namespace Mine

/-- what a task's result means for the run -/
noncomputable def Snd (cx : Cx) (n : Nat) : Tk → Rs → Prop
  | .e sc loc e H, .v x H' => GE cx n sc loc e H x H'
  | .t sc loc e H, .b b H' => GT cx n sc loc e H b H'
  | .cp sc loc e H, .v x H' => GE cx n sc loc e H x H' ∧ GC cx n sc loc e H x H'
  | .x sc st loc H, .f fl loc' H' => GX cx n sc st loc H fl loc' H'
  | .xs sc body loc H, .f fl loc' H' => GXs cx n sc body loc H fl loc' H'
  | .c f args kws H, .v x H' => GCall cx n f args kws H x H'
  | .run f args kws H, .v x H' => GRun cx n f args kws H x H'
  | .l sc loc es H, .l xs H' => GL cx n sc loc es H xs H'
  | .kw sc loc ks H, .k xs H' => GKw cx n sc loc ks H xs H'
  | .ifs sc loc es H, .b b H' => GIf cx n sc loc es H b H'
  | .opt sc loc a H, .o l H' => GO cx n sc loc a H l H'
  | .join sc loc es out H, .v (.str t) H' => GJ cx n sc loc es out H t H'
  | .bool sc loc op es H, .v x H' => GBo cx n sc loc op es H x H'
  | .test sc loc op es H, .b b H' => GTs cx n sc loc op es H b H'
  | .asg sc t v loc H, .s loc' H' => GA cx n sc t v loc H loc' H'
  | .asgs sc ts v loc H, .s loc' H' => GAs cx n sc ts v loc H loc' H'
  | .for sc target body src H0 xs loc H, .f fl loc' H' => GFor cx n sc target body src H0 xs loc H fl loc' H'
  | .cl sc em gens target ifs loc src H0 xs H, .l ys H' => GCl cx n sc em gens target ifs loc src H0 xs H ys H'
  | .inn sc em gens loc H, .l ys H' => GIn cx n sc em gens loc H ys H'
  | _, _ => True

/-- a task has a result: whatever fits the surroundings runs so -/
structure Ev (pe : Pe) (n : Nat) (t : Tk) (r : Rs) : Prop where
  go : ∀ {cx : Cx}, PeOk pe cx → Snd cx n t r
section
variable {pe : Pe}
theorem Ev.ev_Const {n sc loc H p v k j} (h : cst k = some v) : Ev pe (n + 1) (.e sc loc (.Constant k j p) H) (.v v H) := ⟨fun _ => e_Const h⟩
theorem Ev.ev_Name {n sc loc H p v x} (h : look pe sc loc x = some v) : Ev pe (n + 1) (.e sc loc (.Name x p) H) (.v v H) := ⟨fun P => e_Name P h⟩
theorem Ev.ev_Bin {n sc loc H H1 H2 H3 p u w v a b op} (x0 : Ev pe n (.e sc loc a H) (.v u H1)) (x1 : Ev pe n (.e sc loc b H1) (.v w H2)) (h3 : Bin H2 op u w v H3) : Ev pe (n + 1) (.e sc loc (.BinOp a op b p) H) (.v v H3) := ⟨fun P => e_Bin (x0.go P) (x1.go P) h3⟩
theorem Ev.ev_Bool {n sc loc H H1 p v op vs} (x0 : Ev pe n (.bool sc loc op vs H) (.v v H1)) : Ev pe (n + 1) (.e sc loc (.BoolOp op vs p) H) (.v v H1) := ⟨fun P => e_Bool (x0.go P)⟩
theorem Ev.ev_Neg {n sc loc H H1 p a} {k : Int} (x0 : Ev pe n (.e sc loc a H) (.v (.int k) H1)) : Ev pe (n + 1) (.e sc loc (.UnaryOp .USub a p) H) (.v (.int (-k)) H1) := ⟨fun P => e_Neg (x0.go P)⟩
theorem Ev.ev_If {n sc loc H H1 H2 p v c a b t} (x0 : Ev pe n (.t sc loc c H) (.b t H1)) (x1 : Ev pe n (.e sc loc (bif t then a else b) H1) (.v v H2)) : Ev pe (n + 1) (.e sc loc (.IfExp c a b p) H) (.v v H2) := ⟨fun P => e_If (x0.go P) (x1.go P)⟩
theorem Ev.ev_Cmp {n sc loc H H1 H2 p u w a b op t} (hs : isSetE b = false) (x1 : Ev pe n (.e sc loc a H) (.v u H1)) (x2 : Ev pe n (.e sc loc b H1) (.v w H2)) (h3 : Cmp H2 op u w t) : Ev pe (n + 1) (.e sc loc (.Compare a [op] [b] p) H) (.v (.bool t) H2) := ⟨fun P => e_Cmp P hs (x1.go P) (x2.go P) h3⟩
theorem Ev.ev_List {n sc loc H H1 H2 p es xs} (x0 : Ev pe n (.l sc loc es H) (.l xs H1)) (hl : xs.length ≤ lim) (e : H1.alloc (.list xs) = H2) : Ev pe (n + 1) (.e sc loc (.List es p) H) (.v (.ref H1.n) H2) := ⟨fun P => e_List (x0.go P) hl e⟩
theorem Ev.ev_Tuple {n sc loc H H1 p es xs j} (x0 : Ev pe n (.l sc loc es H) (.l xs H1)) (hl : xs.length ≤ lim) : Ev pe (n + 1) (.e sc loc (.Tuple es j p) H) (.v (.tup xs) H1) := ⟨fun P => e_Tuple (x0.go P) hl⟩
theorem Ev.ev_Dict0 {n sc loc H H1 p} (e : H.alloc (.dict []) = H1) : Ev pe (n + 1) (.e sc loc (.Dict [] [] p) H) (.v (.ref H.n) H1) := ⟨fun _ => e_Dict0 e⟩
theorem Ev.ev_Dict1 {n sc loc H H1 H2 H3 p a b v} {s : Str} (x0 : Ev pe n (.e sc loc a H) (.v (.str s) H1)) (x1 : Ev pe n (.e sc loc b H1) (.v v H2)) (e : H2.alloc (.dict [(s, v)]) = H3) : Ev pe (n + 1) (.e sc loc (.Dict [some a] [b] p) H) (.v (.ref H2.n) H3) := ⟨fun P => e_Dict1 (x0.go P) (x1.go P) e⟩
theorem Ev.ev_Set {n sc loc H H1 p x y px py ps s d kvs} (h1 : look pe sc loc x = some (.str s)) (h2 : look pe sc loc y = some (.ref d)) (h3 : H.f d = .dict kvs) (h4 : kvs.length ≤ 3) (e : H.alloc (.set (addAll [s] (kvs.map (·.1)))) = H1) : Ev pe (n + 1) (.e sc loc (.Set [.Name x px, .Starred (.Name y py) ps] 0 p) H) (.v (.ref H.n) H1) := ⟨fun P => e_Set P h1 h2 h3 h4 e⟩
theorem Ev.ev_Idx {n sc loc H H1 H2 p u w v o i} (x0 : isSlice i = false) (x1 : Ev pe n (.e sc loc o H) (.v u H1)) (x2 : Ev pe n (.e sc loc i H1) (.v w H2)) (h3 : index H2 u w = some v) : Ev pe (n + 1) (.e sc loc (.Subscript o i p) H) (.v v H2) := ⟨fun P => e_Idx P (x1.go P) (x2.go P) h3⟩
theorem Ev.ev_Slice {n sc loc H H1 H2 H3 H4 H5 p u v o x y z l hi st ps} (x0 : Ev pe n (.e sc loc o H) (.v u H1)) (x1 : Ev pe n (.opt sc loc x H1) (.o l H2)) (x2 : Ev pe n (.opt sc loc y H2) (.o hi H3)) (x3 : Ev pe n (.opt sc loc z H3) (.o st H4)) (h5 : Slc pe H4 u l hi st v H5) : Ev pe (n + 1) (.e sc loc (.Subscript o (.Slice x y z ps) p) H) (.v v H5) := ⟨fun P => e_Slice P (x0.go P) (x1.go P) (x2.go P) (x3.go P) h5⟩
theorem Ev.ev_Attr {n sc loc H H1 p u v o name} (hs : isSuper o = false) (x1 : Ev pe n (.e sc loc o H) (.v u H1)) (h2 : fld pe H1 name u = some v) (x3 : keepable v = true) : Ev pe (n + 1) (.e sc loc (.Attribute o name p) H) (.v v H1) := ⟨fun P => e_Attr P hs (x1.go P) h2⟩
theorem Ev.ev_AttrL {n sc loc H H1 p o} {i : Nat} {xs : List V} (hs : isSuper o = false) (x1 : Ev pe n (.e sc loc o H) (.v (.ref i) H1)) (h2 : H1.f i = .list xs) : Ev pe (n + 1) (.e sc loc (.Attribute o "append" p) H) (.v (.bm .lAppend (.ref i)) H1) := ⟨fun P => e_AttrL hs (x1.go P) h2⟩
theorem Ev.ev_CallA {n sc loc H H1 H2 H3 H4 p u v o name ap args kws g xs ks} (hp : ap.endLine = p.line) (hs : isSuper o = false) (hl : args.length + kws.length ≤ 25) (x3 : Ev pe n (.e sc loc o H) (.v u H1)) (hg : attr pe H1 name u = some g) (hc : callable pe g = true) (x6 : Ev pe n (.l sc loc args H1) (.l xs H2)) (x7 : Ev pe n (.kw sc loc kws H2) (.k ks H3)) (x8 : Ev pe n (.c g xs ks H3) (.v v H4)) : Ev pe (n + 1) (.e sc loc (.Call (.Attribute o name ap) args kws p) H) (.v v H4) := ⟨fun P => e_CallA P hp hs hl (x3.go P) hg hc (x6.go P) (x7.go P) (x8.go P)⟩
theorem Ev.ev_CallN {n sc loc H H2 H3 H4 p v f fp args kws g xs ks} (hg : look pe sc loc f = some g) (hc : callable pe g = true) (x2 : Ev pe n (.l sc loc args H) (.l xs H2)) (x3 : Ev pe n (.kw sc loc kws H2) (.k ks H3)) (x4 : Ev pe n (.c g xs ks H3) (.v v H4)) : Ev pe (n + 1) (.e sc loc (.Call (.Name f fp) args kws p) H) (.v v H4) := ⟨fun P => e_CallN P hg hc (x2.go P) (x3.go P) (x4.go P)⟩
theorem Ev.ev_NsMap {n sc loc H H1 p fp mp ap ip l} (h1 : ap.endLine = ip.line) (h2 : sc.lookup ("list" : Str) = some .globalImplicit) (h3 : sc.lookup nsMapName = some .globalImplicit) (h4 : pe.nsm = some l) (e : H.alloc (.list (l.map fun p => .tup [.str p.1, .str p.2])) = H1) : Ev pe (n + 1) (.e sc loc (.Call (.Name "list" fp) [.Call (.Attribute (.Name nsMapName mp) "items" ap) [] [] ip] [] p) H) (.v (.ref H.n) H1) := ⟨fun P => e_NsMap P h1 h2 h3 h4 e⟩
theorem Ev.ev_SortK {n sc loc H H1 H2 p f fp x np p1 p2 k1 p3 k2 p4 p5 more lp kp i ks a P q} (h1 : p2.endLine = p5.line) (h2 : isStar x = false) (h3 : look pe sc loc f = some (.bf .sorted)) (x3 : Ev pe n (.e sc loc x H) (.v (.ref i) H1)) (h5 : H1.f i = .set ks) (h6 : pe.lam sc = some (a, P, q)) (h7 : 0 < H1.n) (h8 : H1.f 0 = .tab P q) (h9 : ks.length < 3) (h10 : (ks.map nameKey).Nodup) (h11 : ks.all (fun k => decide (k.length + 2 ≤ lim)) = true) (e : H1.alloc (.list ((sortK nameKey ks).map .str)) = H2) : Ev pe (n + 1) (.e sc loc (.Call (.Name f fp) [x] [⟨some "key", .Lambda ⟨[], [⟨"n", none, np⟩], none, [], [], none, []⟩ (.Call (.Attribute (.Name "n" p1) "split" p2) [.Constant (.str brace) k1 p3, .Constant (.int 1) k2 p4] [] p5) ⟨.function, [("n", .local)], false, false, more⟩ lp, kp⟩] p) H) (.v (.ref H1.n) H2) := ⟨fun P => e_SortK P h1 h2 h3 (x3.go P) h5 h6 h7 h8 h9 h10 h11 e⟩
theorem Ev.ev_Joined {n sc loc H H1 p a b es t} (x0 : Ev pe n (.join sc loc (a :: b :: es) Str.empty H) (.v (.str t) H1)) : Ev pe (n + 1) (.e sc loc (.JoinedStr (a :: b :: es) p) H) (.v (.str t) H1) := ⟨fun P => e_Joined (x0.go P)⟩
theorem Ev.ev_Fmt {n sc loc H H1 p a} {s : Str} (x0 : Ev pe n (.e sc loc a H) (.v (.str s) H1)) (hl : s.length ≤ lim) : Ev pe (n + 1) (.e sc loc (.FormattedValue a (-1) none p) H) (.v (.str s) H1) := ⟨fun P => e_Fmt (x0.go P) hl⟩
theorem Ev.ev_Comp {n sc loc e H v H1} (x0 : Ev pe n (.cp sc loc e H) (.v v H1)) : Ev pe n (.e sc loc e H) (.v v H1) := ⟨fun P => (x0.go P).1⟩
theorem Ev.ev_LC {n sc loc H H1 H2 H3 p elt target iter ifs gens scope it xs src ys} (hok : compOk pe sc scope = true) (hs : isSetE iter = false) (x2 : Ev pe n (.e sc loc iter H) (.v it H1)) (h2 : items H1 it = some (xs, src)) (hf : (tnames target).any (fun x => ((around scope.names loc).lookup x).isSome) = false) (x5 : Ev pe n (.cl scope.names (.el elt) gens target ifs (around scope.names loc) src H1 xs H1) (.l ys H2)) (hl : ys.length ≤ lim) (e : H2.alloc (.list ys) = H3) : Ev pe (n + 1) (.cp sc loc (.ListComp elt (⟨target, iter, ifs, 0⟩ :: gens) scope p) H) (.v (.ref H2.n) H3) := ⟨fun P => c_LC P hok hs (x2.go P) h2 hf (x5.go P) hl e⟩
theorem Ev.ev_DC {n sc loc H H1 H2 H3 p k x target iter ifs gens scope it xs src ys} (hok : compOk pe sc scope = true) (hs : isSetE iter = false) (x2 : Ev pe n (.e sc loc iter H) (.v it H1)) (h2 : items H1 it = some (xs, src)) (hf : (tnames target).any (fun x => ((around scope.names loc).lookup x).isSome) = false) (x5 : Ev pe n (.cl scope.names (.kv k x) gens target ifs (around scope.names loc) src H1 xs H1) (.l ys H2)) (hl : ys.length ≤ lim) (e : H2.alloc (.dict (dictL ys)) = H3) : Ev pe (n + 1) (.cp sc loc (.DictComp k x (⟨target, iter, ifs, 0⟩ :: gens) scope p) H) (.v (.ref H2.n) H3) := ⟨fun P => c_DC P hok hs (x2.go P) h2 hf (x5.go P) hl e⟩
theorem Ev.cl_nil {n sc em gens target ifs loc src H0 H}  : Ev pe n (.cl sc em gens target ifs loc src H0 [] H) (.l [] H) := ⟨fun _ => cl_end⟩
theorem Ev.cl_skip {n sc em gens target ifs loc loc' src H0 x xs H H1 H2 ys} (hb : bindT sc H target x loc = some loc') (x1 : Ev pe n (.ifs sc loc' ifs H) (.b false H1)) (st : stands H0 H1 src) (x3 : Ev pe n (.cl sc em gens target ifs loc src H0 xs H1) (.l ys H2)) : Ev pe n (.cl sc em gens target ifs loc src H0 (x :: xs) H) (.l ys H2) := ⟨fun P => cl_skp hb (x1.go P) st (x3.go P)⟩
theorem Ev.cl_cons {n sc em gens target ifs loc loc' src H0 x xs H H1 H2 H3 ys zs} (hb : bindT sc H target x loc = some loc') (x1 : Ev pe n (.ifs sc loc' ifs H) (.b true H1)) (x2 : Ev pe n (.inn sc em gens loc' H1) (.l ys H2)) (st : stands H0 H2 src) (x4 : Ev pe n (.cl sc em gens target ifs loc src H0 xs H2) (.l zs H3)) : Ev pe n (.cl sc em gens target ifs loc src H0 (x :: xs) H) (.l (ys ++ zs) H3) := ⟨fun P => cl_con hb (x1.go P) (x2.go P) st (x4.go P)⟩
theorem Ev.in_el {n sc loc H H1 v elt} (x0 : Ev pe n (.e sc loc elt H) (.v v H1)) : Ev pe n (.inn sc (.el elt) [] loc H) (.l [v] H1) := ⟨fun P => in_lst (x0.go P)⟩
theorem Ev.in_kv {n sc loc H H1 H2 v k x} {s : Str} (x0 : Ev pe n (.e sc loc k H) (.v (.str s) H1)) (x1 : Ev pe n (.e sc loc x H1) (.v v H2)) : Ev pe n (.inn sc (.kv k x) [] loc H) (.l [.tup [.str s, v]] H2) := ⟨fun P => in_dct (x0.go P) (x1.go P)⟩
theorem Ev.in_next {n sc em gens loc H H1 H2 target iter ifs it xs src ys} (hs : isSetE iter = false) (x1 : Ev pe n (.e sc loc iter H) (.v it H1)) (hi : items H1 it = some (xs, src)) (hf : (tnames target).any (fun x => (loc.lookup x).isSome) = false) (x4 : Ev pe n (.cl sc em gens target ifs loc src H1 xs H1) (.l ys H2)) : Ev pe n (.inn sc em (⟨target, iter, ifs, 0⟩ :: gens) loc H) (.l ys H2) := ⟨fun P => in_nxt hs (x1.go P) hi hf (x4.go P)⟩
theorem Ev.ifs_nil {n sc loc H}  : Ev pe n (.ifs sc loc [] H) (.b true H) := ⟨fun _ => gi_nil⟩
theorem Ev.ifs_false {n sc loc H H1 c cs} (x0 : Ev pe n (.t sc loc c H) (.b false H1)) : Ev pe n (.ifs sc loc (c :: cs) H) (.b false H1) := ⟨fun P => gi_false (x0.go P)⟩
theorem Ev.ifs_true {n sc loc H H1 H2 c cs b} (x0 : Ev pe n (.t sc loc c H) (.b true H1)) (x1 : Ev pe n (.ifs sc loc cs H1) (.b b H2)) : Ev pe n (.ifs sc loc (c :: cs) H) (.b b H2) := ⟨fun P => gi_true (x0.go P) (x1.go P)⟩
theorem Ev.evL_nil {n sc loc H}  : Ev pe n (.l sc loc [] H) (.l [] H) := ⟨fun _ => l_nil⟩
theorem Ev.evL_cons {n sc loc H H1 H2 u a es xs} (hs : isStar a = false) (x1 : Ev pe n (.e sc loc a H) (.v u H1)) (x2 : Ev pe n (.l sc loc es H1) (.l xs H2)) : Ev pe n (.l sc loc (a :: es) H) (.l (u :: xs) H2) := ⟨fun P => l_cons hs (x1.go P) (x2.go P)⟩
theorem Ev.evKw_nil {n sc loc H}  : Ev pe n (.kw sc loc [] H) (.k [] H) := ⟨fun _ => k_nil⟩
theorem Ev.opt_none {n sc loc H}  : Ev pe n (.opt sc loc none H) (.o none H) := ⟨fun _ => o_none⟩
theorem Ev.opt_some {n sc loc H H1 a} {k : Int} (x0 : Ev pe n (.e sc loc a H) (.v (.int k) H1)) : Ev pe n (.opt sc loc (some a) H) (.o (some k) H1) := ⟨fun P => o_some (x0.go P)⟩
theorem Ev.join_nil {n sc loc H out}  : Ev pe n (.join sc loc [] out H) (.v (.str out) H) := ⟨fun _ => j_nil⟩
theorem Ev.join_cons {n sc loc H H1 H2 a es out t} {s : Str} (x0 : Ev pe n (.e sc loc a H) (.v (.str s) H1)) (hl : out.length + s.length ≤ lim) (x2 : Ev pe n (.join sc loc es (out ++ s) H1) (.v (.str t) H2)) : Ev pe n (.join sc loc (a :: es) out H) (.v (.str t) H2) := ⟨fun P => j_cons (x0.go P) hl (x2.go P)⟩
theorem Ev.bool_one {n sc loc H H1 op e v} (x0 : Ev pe n (.e sc loc e H) (.v v H1)) : Ev pe n (.bool sc loc op [e] H) (.v v H1) := ⟨fun P => b_one (x0.go P)⟩
theorem Ev.bool_stop {n sc loc H H1 op e f es v b} (x0 : Ev pe n (.e sc loc e H) (.v v H1)) (h2 : truth H1 v = some b) (h3 : (b == (op == .Or)) = true) : Ev pe n (.bool sc loc op (e :: f :: es) H) (.v v H1) := ⟨fun P => b_stop P (x0.go P) h2 h3⟩
theorem Ev.bool_go {n sc loc H H1 H2 op e f es v w b} (x0 : Ev pe n (.e sc loc e H) (.v v H1)) (h2 : truth H1 v = some b) (h3 : (b == (op == .Or)) = false) (x3 : Ev pe n (.bool sc loc op (f :: es) H1) (.v w H2)) : Ev pe n (.bool sc loc op (e :: f :: es) H) (.v w H2) := ⟨fun P => b_go P (x0.go P) h2 h3 (x3.go P)⟩
theorem Ev.tv_Not {n sc loc H H1 p a t} (x0 : Ev pe n (.t sc loc a H) (.b t H1)) : Ev pe (n + 1) (.t sc loc (.UnaryOp .Not a p) H) (.b (!t) H1) := ⟨fun P => t_Not (x0.go P)⟩
theorem Ev.tv_Bool {n sc loc H H1 p op vs t} (x0 : Ev pe n (.test sc loc op vs H) (.b t H1)) : Ev pe (n + 1) (.t sc loc (.BoolOp op vs p) H) (.b t H1) := ⟨fun P => t_Bool (x0.go P)⟩
theorem Ev.tv_Cmp {n sc loc H H1 H2 p u w a b op t} (hs : isSetE b = false) (x1 : Ev pe n (.e sc loc a H) (.v u H1)) (x2 : Ev pe n (.e sc loc b H1) (.v w H2)) (h3 : Cmp H2 op u w t) : Ev pe (n + 1) (.t sc loc (.Compare a [op] [b] p) H) (.b t H2) := ⟨fun P => t_Cmp P hs (x1.go P) (x2.go P) h3⟩
theorem Ev.tv_Gen {n sc loc H H1 a u t} (hp : plainT a = true) (x1 : Ev pe n (.e sc loc a H) (.v u H1)) (h2 : truth H1 u = some t) : Ev pe (n + 1) (.t sc loc a H) (.b t H1) := ⟨fun P => t_Gen P hp (x1.go P) h2⟩
theorem Ev.test_nil {n sc loc H op}  : Ev pe n (.test sc loc op [] H) (.b (op == .And) H) := ⟨fun _ => ts_nil⟩
theorem Ev.test_stop {n sc loc H H1 op a es t} (x0 : Ev pe n (.t sc loc a H) (.b t H1)) (h : (t == (op == .Or)) = true) : Ev pe n (.test sc loc op (a :: es) H) (.b t H1) := ⟨fun P => ts_stop (x0.go P) h⟩
theorem Ev.test_go {n sc loc H H1 H2 op a es t b} (x0 : Ev pe n (.t sc loc a H) (.b t H1)) (h : (t == (op == .Or)) = false) (x2 : Ev pe n (.test sc loc op es H1) (.b b H2)) : Ev pe n (.test sc loc op (a :: es) H) (.b b H2) := ⟨fun P => ts_go (x0.go P) h (x2.go P)⟩
theorem Ev.xv_Expr {n sc loc H H1 p a u} (hc : isCompE a = false) (x1 : Ev pe n (.e sc loc a H) (.v u H1)) : Ev pe (n + 1) (.x sc (.Expr a p) loc H) (.f .next loc H1) := ⟨fun P => x_Expr hc (x1.go P)⟩
theorem Ev.xv_Ret {n sc loc H H1 p a u} (x0 : Ev pe n (.e sc loc a H) (.v u H1)) : Ev pe (n + 1) (.x sc (.Return (some a) p) loc H) (.f (.ret u) loc H1) := ⟨fun P => x_Ret (x0.go P)⟩
theorem Ev.xv_If {n sc loc loc' H H1 H2 p a x y t fl} (x0 : Ev pe n (.t sc loc a H) (.b t H1)) (x1 : Ev pe n (.xs sc (bif t then x else y) loc H1) (.f fl loc' H2)) : Ev pe (n + 1) (.x sc (.If a x y p) loc H) (.f fl loc' H2) := ⟨fun P => x_If (x0.go P) (x1.go P)⟩
theorem Ev.xv_Asg {n sc loc loc' H H1 H2 p ts a u} (hc : isCompE a = false) (hw : (∀ env, swappedStores ts a env = pure none)) (x2 : Ev pe n (.e sc loc a H) (.v u H1)) (x3 : Ev pe n (.asgs sc ts u loc H1) (.s loc' H2)) : Ev pe (n + 1) (.x sc (.Assign ts a p) loc H) (.f .next loc' H2) := ⟨fun P => x_Asg hc hw (x2.go P) (x3.go P)⟩
theorem Ev.xv_AsgC {n sc loc loc' H H1 H2 p y yp a u} (_ : isCompE a = true) (x1 : Ev pe n (.cp sc loc a H) (.v u H1)) (x2 : Ev pe n (.asgs sc [.Name y yp] u loc H1) (.s loc' H2)) : Ev pe (n + 1) (.x sc (.Assign [.Name y yp] a p) loc H) (.f .next loc' H2) := ⟨fun P => x_AsgC (x1.go P) (x2.go P)⟩
theorem Ev.xv_AsgT {n sc loc loc' H H1 p ts tp1 tp2 vs vp1 vp2 xs} (hw : swapOk sc ts vs = true) (x1 : Ev pe n (.e sc loc (.Tuple vs vp1 vp2) H) (.v (.tup xs) H1)) (h2 : bindTs sc ts xs loc = some loc') : Ev pe (n + 1) (.x sc (.Assign [.Tuple ts tp1 tp2] (.Tuple vs vp1 vp2) p) loc H) (.f .next loc' H1) := ⟨fun P => x_AsgT hw (x1.go P) h2⟩
theorem Ev.asgs_one {n sc loc loc' H H1 a u} (hs : isStar a = false) (x1 : Ev pe n (.asg sc a u loc H) (.s loc' H1)) : Ev pe n (.asgs sc [a] u loc H) (.s loc' H1) := ⟨fun P => as_one hs (x1.go P)⟩
theorem Ev.asg_Bind {n sc loc loc' H u t} (h : bindT sc H t u loc = some loc') : Ev pe n (.asg sc t u loc H) (.s loc' H) := ⟨fun _ => a_Bind h⟩
theorem Ev.asg_Attr {n sc loc H H1 H2 p o w u name d} (x0 : Ev pe n (.e sc loc o H) (.v w H1)) (h2 : instOf pe H1 name w = some d) (h3 : putN H1 d name u (H1.f d) = some H2) : Ev pe n (.asg sc (.Attribute o name p) u loc H) (.s loc H2) := ⟨fun P => a_Attr P (x0.go P) h2 h3⟩
theorem Ev.xv_Aug {n sc loc H H1 H2 p x px op old a u v} (ho : own sc x = true) (h0 : look pe sc loc x = some old) (ha : augOk old = true) (x3 : Ev pe n (.e sc loc a H) (.v u H1)) (h2 : Bin H1 op old u v H2) : Ev pe (n + 1) (.x sc (.AugAssign (.Name x px) op a p) loc H) (.f .next (setL loc x v) H2) := ⟨fun P => x_Aug P ho h0 ha (x3.go P) h2⟩
theorem Ev.xv_For {n sc loc loc' H H1 H2 p target iter body it xs src fl} (hs : isSetE iter = false) (x1 : Ev pe n (.e sc loc iter H) (.v it H1)) (hi : items H1 it = some (xs, src)) (x3 : Ev pe n (.for sc target body src H1 xs loc H1) (.f fl loc' H2)) : Ev pe (n + 1) (.x sc (.For target iter body [] p) loc H) (.f fl loc' H2) := ⟨fun P => x_For hs (x1.go P) hi (x3.go P)⟩
theorem Ev.for_nil {n sc target body src H0 loc H}  : Ev pe n (.for sc target body src H0 [] loc H) (.f .next loc H) := ⟨fun _ => f_nil⟩
theorem Ev.for_cons {n sc target body src H0 x xs loc loc1 loc2 loc' H H1 H2 fl fl'} (hb : bindT sc H target x loc = some loc1) (x1 : Ev pe n (.xs sc body loc1 H) (.f fl loc2 H1)) (hg : goesOn fl = true) (st : stands H0 H1 src) (x4 : Ev pe n (.for sc target body src H0 xs loc2 H1) (.f fl' loc' H2)) : Ev pe n (.for sc target body src H0 (x :: xs) loc H) (.f fl' loc' H2) := ⟨fun P => f_cons hb (x1.go P) hg st (x4.go P)⟩
theorem Ev.for_ret {n sc target body src H0 x xs loc loc1 loc2 H H1 v} (hb : bindT sc H target x loc = some loc1) (x1 : Ev pe n (.xs sc body loc1 H) (.f (.ret v) loc2 H1)) : Ev pe n (.for sc target body src H0 (x :: xs) loc H) (.f (.ret v) loc2 H1) := ⟨fun P => f_ret hb (x1.go P)⟩
theorem Ev.for_forget {n sc target body src H0 xs loc0 loc loc' H H2 fl} (hl : (∀ y v, loc0.lookup y = some v → loc.lookup y = some v)) (x1 : Ev pe n (.for sc target body src H0 xs loc0 H) (.f fl loc' H2)) : Ev pe n (.for sc target body src H0 xs loc H) (.f fl loc' H2) := ⟨fun P => f_forget hl (x1.go P)⟩
theorem Ev.xv_Del {n sc loc H H1 H2 p o ps ps' j xs} (x0 : Ev pe n (.e sc loc o H) (.v (.ref j) H1)) (hf : H1.f j = .list xs) (hl : xs.length ≤ lim) (e : H1.put j (.list []) = H2) : Ev pe (n + 1) (.x sc (.Delete [.Subscript o (.Slice none none none ps) ps'] p) loc H) (.f .next loc H2) := ⟨fun P => x_Del (x0.go P) hf hl e⟩
theorem Ev.xv_Try {n sc loc loc' H H1 p body h0 hs fl} (x0 : Ev pe n (.xs sc body loc H) (.f fl loc' H1)) : Ev pe (n + 1) (.x sc (.Try body (h0 :: hs) [] [] p) loc H) (.f fl loc' H1) := ⟨fun P => x_Try (x0.go P)⟩
theorem Ev.xs_nil {n sc loc H}  : Ev pe n (.xs sc [] loc H) (.f .next loc H) := ⟨fun _ => xs_sound_nil⟩
theorem Ev.xs_cons {n sc loc loc1 loc' H H1 H2 s r fl} (x0 : Ev pe n (.x sc s loc H) (.f .next loc1 H1)) (x1 : Ev pe n (.xs sc r loc1 H1) (.f fl loc' H2)) : Ev pe n (.xs sc (s :: r) loc H) (.f fl loc' H2) := ⟨fun P => xs_sound_cons (x0.go P) (x1.go P)⟩
theorem Ev.xs_stop {n sc loc loc' H H1 s r fl} (x0 : Ev pe n (.x sc s loc H) (.f fl loc' H1)) (h : isNext fl = false) : Ev pe n (.xs sc (s :: r) loc H) (.f fl loc' H1) := ⟨fun P => xs_sound_stop (x0.go P) h⟩
theorem Ev.run_fn {n sc loc' H H1 f fd body ps args kws fl v} (h1 : pe.fn f = some fd) (h2 : pe.sig f args.length (kws.map (·.1)) ps) (h3 : fd.body = .stmts body) (h4 : fd.scope.names = sc) (x4 : Ev pe n (.xs sc body (ps.map fun p => (p.1, p.2.get args (kws.map (·.2)))) H) (.f fl loc' H1)) (h6 : flV fl = some v) : Ev pe n (.run f args kws H) (.v v H1) := ⟨fun P => run_sound P h1 h2 h3 h4 (x4.go P) h6⟩
theorem Ev.c_mt {n f x args kws H H1 v} (x0 : Ev pe n (.run f (x :: args) kws H) (.v v H1)) : Ev pe (n + 1) (.c (.mt f x) args kws H) (.v v H1) := ⟨fun P => s_mt (x0.go P)⟩
theorem Ev.c_fn {n f args kws H H1 v} (x0 : pe.init f = none) (x1 : Ev pe n (.run f args kws H) (.v v H1)) : Ev pe (n + 1) (.c (.fn f) args kws H) (.v v H1) := ⟨fun P => s_fn (x1.go P)⟩
theorem Ev.c_cls {n f g args kws H H1} (h : pe.init f = some g) (x1 : Ev pe n (.run g (.ref (H.n + 1) :: args) kws ((H.alloc (.ns [])).alloc (.inst f H.n))) (.v .none H1)) : Ev pe (n + 1) (.c (.fn f) args kws H) (.v (.ref (H.n + 1)) H1) := ⟨fun P => s_cls P h (x1.go P)⟩
theorem Ev.c_bm {n m x args H H1 v} (h : Prm H m x args v H1) : Ev pe (n + 1) (.c (.bm m x) args [] H) (.v v H1) := ⟨fun P => s_bm P h⟩
theorem Ev.c_bf {n m args H H1 v} (h : PrF pe H m args v H1) : Ev pe (n + 1) (.c (.bf m) args [] H) (.v v H1) := ⟨fun P => s_bf P h⟩
end
end Mine
end
section
open PySem PySem.W PyProof.Rows PySem.SeqAt
namespace Mine

noncomputable def bfTab : List (Str × Bf) := [("len", .len), ("sum", .sum), ("sorted", .sorted), ("set", .set), ("list", .list), ("dict", .dict)]
noncomputable def bfOf (x : Str) : Option Bf := bfTab.lookup x
theorem boot_all : ∀ q ∈ bfTab, bootBuiltins q.1 = some q.2.val ∧ q.1 ≠ "__name__" := by
  have h : ∀ {q : Str × Bf} {l : List (Str × Bf)}, (bootBuiltins q.1 = some q.2.val ∧ q.1 ≠ "__name__") → (∀ r ∈ l, bootBuiltins r.1 = some r.2.val ∧ r.1 ≠ "__name__") → ∀ r ∈ q :: l, bootBuiltins r.1 = some r.2.val ∧ r.1 ≠ "__name__" := fun h1 h2 r hr => by
    rcases List.mem_cons.mp hr with rfl | hr
    · exact h1
    · exact h2 r hr
  exact h ⟨by kernel_rfl, by decide⟩ (h ⟨by kernel_rfl, by decide⟩ (h ⟨by kernel_rfl, by decide⟩ (h ⟨by kernel_rfl, by decide⟩ (h ⟨by kernel_rfl, by decide⟩ (h ⟨by kernel_rfl, by decide⟩ fun _ h => nomatch h)))))
theorem boot_bf {x : Str} {b : Bf} (h : bfOf x = some b) : bootBuiltins x = some b.val ∧ x ≠ "__name__" := boot_all _ (mem_of_lookup h)

/-- a law's fixed parts -/
structure Cfg where
  K : Frag
  C : Addr
  init : Addr
  names : List Str
  lam : Option (Sc × Addr × Addr × Str)
  nsm : Option (Addr × List (Str × Str))
  lst : Addr → Option (List Int)
  sig : Addr → Nat → List Str → List (Str × Src) → Prop

noncomputable def globV : Value → Option V
  | .ref a => some (.fn a)
  | _ => none
noncomputable def globO (x : Str) : Option Value → Option V
  | some u => globV u
  | none => (bfOf x).map .bf
noncomputable def Cfg.glob (c : Cfg) (x : Str) : Option V := (nsIn c.K mainGlobals x).bind (globO x)

noncomputable def Cfg.lamT (c : Cfg) (sc : Sc) : Option (Addr × Addr × Str) := match c.lam with
  | some (sc', r) => if sc = sc' then some r else none
  | none => none

noncomputable def Cfg.good (c : Cfg) (fd : FuncData) : Bool :=
  fd.globals == mainGlobals && fd.builtins == builtinsNs && fd.closure.isEmpty && decide (fd.scope.kind = .function) && !fd.scope.isGenerator && !fd.scope.isCoroutine && codeIn c.K fd.code fd.qualname &&
    (match c.lamT fd.scope.names with
      | some (a, _, q) => fd.code == .ref a && fd.qualname ++ ".<locals>." ++ "<lambda>" == q
      | none => true)

noncomputable def fnD : Data → Option FuncData
  | .func fd => some fd
  | _ => none
noncomputable def Cfg.fn (c : Cfg) (f : Addr) : Option FuncData := (c.K.lookup f).bind fun o => (fnD o.data).bind fun fd => if c.good fd = true then some fd else none
theorem fnD_of {d : Data} {fd : FuncData} (h : fnD d = some fd) : d = .func fd := by
  cases d with
  | func fd' => exact congrArg Data.func (Option.some.inj h)
  | _ => exact noS h

noncomputable def clsM (K : Frag) (C : Addr) (name : Str) : Option Addr := match findIn K (.ref C) name with
  | some (some (.ref f)) => some f
  | _ => none
noncomputable def clsGood (K : Frag) (C : Addr) (name : Str) : Bool :=
  findIn K (.ref C) "__getattribute__" == some (some (.builtin "object.__getattribute__")) && findIn K (.ref C) "__getattr__" == some none && findIn K (.ref C) "__setattr__" == some (some (.builtin "object.__setattr__")) &&
  (match findIn K (.ref C) name with
    | some none => true
    | some (some (.ref f)) => typeIn K (.ref f) == some (.type "function") && specialIn K (.ref f) "__get__" == some (some (.builtin "function.__get__")) && takesIn K (.ref f) == some false
    | _ => false) && (clsIn K C).any (·.hasDict) && plainOver K C && !copiedNames.contains name

noncomputable def Cfg.cls (c : Cfg) (C : Addr) (name : Str) : Option (Option Addr) := if C = c.C ∧ name ∈ c.names then some (clsM c.K C name) else none

noncomputable def Cfg.pe (c : Cfg) : Pe where
  glob := c.glob
  fn := c.fn
  sig := c.sig
  cls := c.cls
  init := fun C => if C = c.C then some c.init else none
  lam := c.lamT
  nsm := c.nsm.map (·.2)
  lst := c.lst

theorem mg_none {K : Frag} {h : Heap} {mg : Str → Option Value} {n : Str} (X : K.In h) (G : h.Ns mainGlobals mg) (e : nsIn K mainGlobals n = some none) : mg n = none := by
  obtain ⟨o, es, ep, ho, hd, _, hf⟩ := G
  unfold nsIn at e
  cases q : K.lookup mainGlobals with
  | none => rw [q] at e; cases e
  | some o' =>
    cases Option.some.inj (ho.symm.trans (X _ _ q))
    rw [q] at e
    obtain ⟨c, d, dat, sl⟩ := o
    subst hd
    have hq : es.toList.find? (·.key.isStr n) = none := by
      cases hq : es.toList.find? (·.key.isStr n) with
      | none => rfl
      | some e1 => replace e : (match es.toList.find? (·.key.isStr n) with
          | some e => some (some e.val)
          | none => if es.toList.any (·.refKey) then none else some none) = some none := e
                   rw [hq] at e; cases e
    rw [← hf]
    obtain ⟨l⟩ := es
    unfold nsFind findBy
    rw [List.find?_toArray]
    exact congrArg (Option.map _) hq

theorem clsOk_of {cx : Cx} {C : Addr} {name : Str} (h : clsGood cx.K C name = true) : ClsOk cx C name (clsM cx.K C name) := by
  unfold clsGood at h
  simp only [Bool.and_eq_true, beq_iff_eq, Bool.not_eq_true'] at h
  obtain ⟨⟨⟨⟨⟨⟨h1, h2⟩, h3⟩, h4⟩, h5⟩, h6⟩, h7⟩ := h
  obtain ⟨cd, hcd, hdict⟩ := any_some h5
  unfold clsM
  split at h4
  · rename_i e
    exact ⟨h1, h2, h3, by rw [e]; rfl, ⟨cd, hcd, hdict⟩, h6, h7, fun f q => by rw [e] at q; cases q⟩
  · rename_i f e
    simp only [Bool.and_eq_true, beq_iff_eq] at h4
    exact ⟨h1, h2, h3, by rw [e]; rfl, ⟨cd, hcd, hdict⟩, h6, h7, fun f' q => by rw [e] at q; cases q; exact ⟨h4.1.1, h4.1.2, h4.2⟩⟩
  · cases h4

theorem peOk_of {c : Cfg} {cx : Cx} {mg mb : Str → Option Value} (hK : cx.K = c.K) (hlam : cx.lam = c.lamT) (X : c.K.In cx.g) (G : cx.g.Ns mainGlobals mg) (B : cx.g.Ns builtinsNs mb) (hb : ∀ x : Str, x ≠ "__name__" → mb x = bootBuiltins x) (hnl : cx.g.NoLimit) (hst : HasSys cx)
    (hinit : makesIn c.K c.C = true ∧ findIn c.K (.ref c.C) "__init__" = some (some (.ref c.init)) ∧ typeIn c.K (.ref c.init) = some (.type "function")) (hcls : c.names.all (clsGood c.K c.C) = true)
    (hlamOk : ∀ {sc a P q}, c.lamT sc = some (a, P, q) → CodeHd cx.g a P ∧ ∃ mg, cx.g.Ns mainGlobals mg ∧ cx.g.BuiltinsAt mg P ∧ mainGlobals ≠ P)
    (hnsm : ∀ {a l}, c.nsm = some (a, l) → c.glob "list" = some (.bf .list) ∧ nsIn c.K mainGlobals nsMapName = some (some (.ref a)) ∧ ∃ ps, (a == sysModules) = false ∧ ps.length ≤ 1000 ∧ cx.g.DictOf (PySem.strKind cx.prog cx.w) a ps ∧ ps.map (·.1) = l.map (·.1) ∧ StrsAre (ps.map (·.2)) (l.map (·.2)))
    (hlst : ∀ {a is}, c.lst a = some is → is.length ≤ 1000 ∧ ∃ vs : Array Value, cx.g.IsList a vs ∧ ∀ n ρ h, RepL n ρ h vs.toList (is.map .int))
    (hsig : ∀ {f fd n ks ps}, c.fn f = some fd → c.sig f n ks ps → SigOk cx fd n ks ps) : PeOk c.pe cx where
  glob := fun {x v} h => by
    obtain ⟨o, e, h⟩ := Option.bind_eq_some_iff.mp h
    cases o with
    | some u =>
      cases u with
      | ref a =>
        cases h
        refine ⟨.ref a, fun _ _ _ => .fn a, fun {A env s Q E} hg _ hk hQ => ?_⟩
        exact PySem.Calls.loadGlobal_global (mg := mg) (by rw [hg]; exact G.keeps hk) (mg_of X G e) hQ
      | _ => exact noS h
    | none =>
      obtain ⟨b, hbf, rfl⟩ := Option.map_eq_some_iff.mp h
      obtain ⟨h1, h2⟩ := boot_bf hbf
      refine ⟨b.val, fun _ _ _ => .bf b, fun {A env s Q E} hg hbu hk hQ => ?_⟩
      exact PySem.Calls.loadGlobal_builtin (mg := mg) (mb := mb) (by rw [hg]; exact G.keeps hk) (mg_none X G e) (by rw [hbu]; exact B.keeps hk) (by rw [hb _ h2]; exact h1) hQ
  noLimit := hnl
  sys := hst
  fn := fun {f fd} h => by
    obtain ⟨o, e, h⟩ := Option.bind_eq_some_iff.mp h
    obtain ⟨fd', e', h⟩ := Option.bind_eq_some_iff.mp h
    obtain ⟨hg, rfl⟩ := ite_some h
    obtain ⟨oc, od, dat, osl⟩ := o
    cases fnD_of e'
    obtain ⟨hg, h8⟩ := Bool.and_eq_true_iff.mp hg
    obtain ⟨hg, h7⟩ := Bool.and_eq_true_iff.mp hg
    obtain ⟨hg, h6⟩ := Bool.and_eq_true_iff.mp hg
    obtain ⟨hg, h5⟩ := Bool.and_eq_true_iff.mp hg
    obtain ⟨hg, h4⟩ := Bool.and_eq_true_iff.mp hg
    obtain ⟨hg, h3⟩ := Bool.and_eq_true_iff.mp hg
    obtain ⟨h1, h2⟩ := Bool.and_eq_true_iff.mp hg
    refine ⟨⟨_, X _ _ e, rfl⟩, beq_iff_eq.mp h1, beq_iff_eq.mp h2, List.isEmpty_iff.mp h3, of_decide_eq_true h4, (Bool.not_eq_true' _).mp h5, (Bool.not_eq_true' _).mp h6, codeRec_of X h7, fun a P q hl => ?_⟩
    rw [hlam] at hl
    rw [hl] at h8
    obtain ⟨h9, h10⟩ := Bool.and_eq_true_iff.mp h8
    exact ⟨beq_iff_eq.mp h9, beq_iff_eq.mp h10⟩
  kin := by rw [hK]; exact X
  init := fun {C g} h => by
    obtain ⟨rfl, rfl⟩ := ite_some h
    rw [hK]; exact hinit
  cls := fun {C name m} h => by
    obtain ⟨⟨rfl, hm⟩, rfl⟩ := ite_some h
    have := List.all_eq_true.mp hcls name hm
    rw [← hK] at this ⊢
    exact clsOk_of this
  lam := fun sc => by rw [hlam]; rfl
  lamOk := fun {sc a P q} h => by rw [hlam] at h; exact hlamOk h
  nsm := fun {l} h => by
    obtain ⟨⟨a, l'⟩, h', rfl⟩ := Option.map_eq_some_iff.mp h
    obtain ⟨h1, h2, ps, h3, h4, h5, h6, h7⟩ := hnsm h'
    refine ⟨h1, a, ps, fun {A env s Q E} hg hbu hk hQ => ?_, h3, h4, h5, h6, h7⟩
    exact PySem.Calls.loadGlobal_global (mg := mg) (by rw [hg]; exact G.keeps hk) (mg_of X G h2) hQ
  lst := fun {a is} h => hlst h
  sig := fun {f fd n ks ps} h1 h2 => hsig h1 h2
/-- a piece of the semantics that reads fixed places alone -/
noncomputable def runS (K : Frag) {α : Type} : Sem α → Option α
  | .pure a => some a
  | .rule _ k => runS K (k ())
  | .at _ k => runS K (k ())
  | .load a _ k => (K.lookup a).bind fun o => runS K (k o)
  | _ => none
theorem runS_sound {K : Frag} {s : Shared} (X : K.In s.heap) {M : Model} {Γ : Ctx} {α : Type} {a : α} {Q : α → Pos → Shared → Prop} {E} (hQ : ∀ p, Q a p s) : ∀ (m : Sem α) {p : Pos}, runS K m = some a → Sem.wp M Γ m Q E p s := by
  intro m
  induction m with
  | pure b => intro p h; cases h; exact hQ p
  | rule t k ih => intro p h; exact ih () h
  | «at» p' k ih => intro p h; exact ih () h
  | load b part k ih =>
    intro p h
    obtain ⟨o, e, h⟩ := Option.bind_eq_some_iff.mp h
    exact ⟨o, X _ _ e, ih o h⟩
  | _ => intro p h; cases h
theorem sig_run {cx : Cx} {fd : FuncData} {n : Nat} {ps : List (Str × Src)} (K : Frag) (X : K.In cx.g) (hks : ps.all (fun p => ownK (fd.scope.names.lookup p.1)) = true) (hnd : (ps.map (·.1)).Nodup)
    (h : ∀ vs, vs.length = n → ∃ us, runS K (bindArgs fd ⟨vs, []⟩) = some ((ps.map (·.1)).zip us) ∧ Srcs cx.g vs [] ps us) : SigOk cx fd n [] ps where
  kinds := fun p hp => by
    have := List.all_eq_true.mp hks p hp
    generalize fd.scope.names.lookup p.1 = k at this
    cases k with
    | none => cases this
    | some k => cases k <;> first | exact .inl rfl | exact .inr rfl | cases this
  nodup := hnd
  bind := fun {A s vs kvs Q E} hk hl hkv hQ => by
    cases List.map_eq_nil_iff.mp hkv
    obtain ⟨us, h1, h2⟩ := h vs hl
    exact fun Γ p _ => runS_sound (X.keeps hk) (fun _ => hQ us h2) _ h1
theorem len1 {α : Type} {vs : List α} (h : vs.length = 1) : ∃ a, vs = [a] := by
  match vs, h with | [a], _ => exact ⟨a, rfl⟩
theorem lenB {α : Type} {vs : List α} (h : vs.length = 2) : ∃ a b, vs = [a, b] := by
  match vs, h with | [a, b], _ => exact ⟨a, b, rfl⟩
theorem len3 {α : Type} {vs : List α} (h : vs.length = 3) : ∃ a b c, vs = [a, b, c] := by
  match vs, h with | [a, b, c], _ => exact ⟨a, b, c, rfl⟩
theorem len4 {α : Type} {vs : List α} (h : vs.length = 4) : ∃ a b c d, vs = [a, b, c, d] := by
  match vs, h with | [a, b, c, d], _ => exact ⟨a, b, c, d, rfl⟩
end Mine
end
section
open PySem PySem.W PyProof.Rows
set_option maxRecDepth 100000
set_option maxHeartbeats 8000000
namespace Mine
noncomputable def twP : { p : Program // PySem.Challenge.pw_dr0138_06 = p } :=
  ⟨_, by
    conv => lhs; reduce⟩
noncomputable def pre.tw2404787655524352273 : Program := twP.1
theorem pre.te2404787655524352273 : PySem.Challenge.pw_dr0138_06 = pre.tw2404787655524352273 := twP.2
set_option Elab.async true in
theorem pre : decide (PySem.Challenge.pw_dr0138_06.main.body.length = 13) = true := by
  k_qdec
theorem pre2 : True := by decide +kernel
end Mine
open_top hd for PySem.Challenge.rw_dr0138_06
end
section
open PySem PySem.W PyProof.Rows PySem.SeqAt
set_option maxRecDepth 100000
namespace Mine

noncomputable def fdAt (K : Frag) (a : Addr) : FuncData := match K.lookup a with
  | some ⟨_, _, .func fd, _⟩ => fd
  | _ => default
noncomputable def bodyAt (K : Frag) (a : Addr) : List Stmt := match (fdAt K a).body with
  | .stmts b => b
  | _ => []
noncomputable def strsAt (K : Frag) (a : Addr) : List (Str × Str) := match K.lookup a with
  | some ⟨_, _, .dict es _, _⟩ => es.toList.filterMap fun e => match e.key, e.val with
    | .str k _, .str v _ => some (k, v)
    | _, _ => none
  | _ => []
noncomputable def argsS : List Str → List (Str × Src) := fun l => l.zipIdx.map fun p => (p.1, .arg p.2)

noncomputable def names6 : List Str := ["_write", "_data", "_with_comments", "_strip_text", "_exclude_attrs", "_exclude_tags", "_rewrite_prefixes", "_qname_aware_tags", "_find_qname_aware_attrs", "_declared_ns_stack", "_ns_stack", "_prefix_map", "_preserve_space", "_pending_start", "_root_seen", "_root_done", "_ignored_depth", "_iter_namespaces", "start_ns", "start", "_start", "end", "data", "_flush", "_qname"]

inductive Sig6 : Addr → Nat → List Str → List (Str × Src) → Prop
  | law : Sig6 178 1 [] [("script", .arg 0)]
  | walk : Sig6 173 1 [] [("stack", .arg 0)]
  | init : Sig6 67 2 [] [("self", .arg 0), ("write", .arg 1), ("with_comments", .dflt (.bool false)), ("strip_text", .dflt (.bool false)), ("rewrite_prefixes", .dflt (.bool false)), ("qname_aware_tags", .dflt .none), ("qname_aware_attrs", .dflt .none), ("exclude_attrs", .dflt .none), ("exclude_tags", .dflt .none)]
  | qname : Sig6 90 2 [] [("self", .arg 0), ("qname", .arg 1), ("uri", .dflt .none)]
  | data : Sig6 97 2 [] [("self", .arg 0), ("data", .arg 1)]
  | flush : Sig6 106 1 [] [("self", .arg 0), ("_join_text", .dflt (.bm .tJoin (.str "")))]
  | startns : Sig6 113 3 [] [("self", .arg 0), ("prefix", .arg 1), ("uri", .arg 2)]
  | start : Sig6 120 3 [] [("self", .arg 0), ("tag", .arg 1), ("attrs", .arg 2)]
  | start2 : Sig6 126 4 [] [("self", .arg 0), ("tag", .arg 1), ("attrs", .arg 2), ("new_namespaces", .arg 3), ("qname_text", .dflt .none)]
  | end_ : Sig6 133 2 [] [("self", .arg 0), ("tag", .arg 1)]
  | ecd : Sig6 161 1 [] [("text", .arg 0)]
  | eat : Sig6 168 1 [] [("text", .arg 0)]

noncomputable def lamName : Str := "C14NWriterTarget._start.<locals>.<lambda>"
noncomputable def cfg6 (P : Params) (sa : Addr) (is : List Int) : Cfg := ⟨hd.heap_39 P, 150, 67, names6, some ((fdAt (hd.heap_39 P) 126).scope.names, 125, 123, lamName), some (44, strsAt (hd.heap_39 P) 44), fun a => if a = sa then some is else none, Sig6⟩

section
variable (P : Params) (sa : Addr) (is : List Int)
theorem fn_law : (cfg6 P sa is).fn 178 = some (fdAt (hd.heap_39 P) 178) := by kernel_rfl
theorem fn_walk : (cfg6 P sa is).fn 173 = some (fdAt (hd.heap_39 P) 173) := by kernel_rfl
theorem fn_init : (cfg6 P sa is).fn 67 = some (fdAt (hd.heap_39 P) 67) := by kernel_rfl
theorem fn_qname : (cfg6 P sa is).fn 90 = some (fdAt (hd.heap_39 P) 90) := by kernel_rfl
theorem fn_data : (cfg6 P sa is).fn 97 = some (fdAt (hd.heap_39 P) 97) := by kernel_rfl
theorem fn_flush : (cfg6 P sa is).fn 106 = some (fdAt (hd.heap_39 P) 106) := by kernel_rfl
theorem fn_startns : (cfg6 P sa is).fn 113 = some (fdAt (hd.heap_39 P) 113) := by kernel_rfl
theorem fn_start : (cfg6 P sa is).fn 120 = some (fdAt (hd.heap_39 P) 120) := by kernel_rfl
theorem fn_start' : (cfg6 P sa is).fn 126 = some (fdAt (hd.heap_39 P) 126) := by kernel_rfl
theorem fn_end : (cfg6 P sa is).fn 133 = some (fdAt (hd.heap_39 P) 133) := by kernel_rfl
theorem fn_ecd : (cfg6 P sa is).fn 161 = some (fdAt (hd.heap_39 P) 161) := by kernel_rfl
theorem fn_eat : (cfg6 P sa is).fn 168 = some (fdAt (hd.heap_39 P) 168) := by kernel_rfl
theorem init_ok : makesIn (cfg6 P sa is).K (cfg6 P sa is).C = true ∧ findIn (cfg6 P sa is).K (.ref (cfg6 P sa is).C) "__init__" = some (some (.ref (cfg6 P sa is).init)) ∧ typeIn (cfg6 P sa is).K (.ref (cfg6 P sa is).init) = some (.type "function") := ⟨by kernel_rfl, by kernel_rfl, by kernel_rfl⟩
theorem cls_ok : (cfg6 P sa is).names.all (clsGood (cfg6 P sa is).K (cfg6 P sa is).C) = true := by kernel_rfl
theorem list_ok : (cfg6 P sa is).glob "list" = some (.bf .list) := by kernel_rfl
theorem map_ok : nsIn (cfg6 P sa is).K mainGlobals nsMapName = some (some (.ref 44)) := by kernel_rfl
theorem code_ok : codeHdIn (cfg6 P sa is).K 125 123 = true := by kernel_rfl
theorem noTabs_ok : noTabs (cfg6 P sa is).K = true := by kernel_rfl
theorem law_at : nsIn (cfg6 P sa is).K mainGlobals "law" = some (some (.ref 178)) := by kernel_rfl

theorem sg_law {cx : Cx} (X : (hd.heap_39 P).In cx.g) : SigOk cx (fdAt (hd.heap_39 P) 178) 1 [] [("script", .arg 0)] :=
  sig_run _ X (by kernel_rfl) (by decide) fun vs h => by obtain ⟨a, rfl⟩ := len1 h; exact ⟨[a], by kernel_rfl, .cons rfl (.nil)⟩
theorem sg_walk {cx : Cx} (X : (hd.heap_39 P).In cx.g) : SigOk cx (fdAt (hd.heap_39 P) 173) 1 [] [("stack", .arg 0)] :=
  sig_run _ X (by kernel_rfl) (by decide) fun vs h => by obtain ⟨a, rfl⟩ := len1 h; exact ⟨[a], by kernel_rfl, .cons rfl (.nil)⟩
theorem sg_init {cx : Cx} (X : (hd.heap_39 P).In cx.g) : SigOk cx (fdAt (hd.heap_39 P) 67) 2 [] [("self", .arg 0), ("write", .arg 1), ("with_comments", .dflt (.bool false)), ("strip_text", .dflt (.bool false)), ("rewrite_prefixes", .dflt (.bool false)), ("qname_aware_tags", .dflt .none), ("qname_aware_attrs", .dflt .none), ("exclude_attrs", .dflt .none), ("exclude_tags", .dflt .none)] :=
  sig_run _ X (by kernel_rfl) (by decide) fun vs h => by obtain ⟨a, b, rfl⟩ := lenB h; exact ⟨[a, b, .bool false, .bool false, .bool false, .none, .none, .none, .none], by kernel_rfl, .cons rfl (.cons rfl (.cons (fun _ _ _ _ => .bool false) (.cons (fun _ _ _ _ => .bool false) (.cons (fun _ _ _ _ => .bool false) (.cons (fun _ _ _ _ => .none) (.cons (fun _ _ _ _ => .none) (.cons (fun _ _ _ _ => .none) (.cons (fun _ _ _ _ => .none) (.nil)))))))))⟩
theorem sg_qname {cx : Cx} (X : (hd.heap_39 P).In cx.g) : SigOk cx (fdAt (hd.heap_39 P) 90) 2 [] [("self", .arg 0), ("qname", .arg 1), ("uri", .dflt .none)] :=
  sig_run _ X (by kernel_rfl) (by decide) fun vs h => by obtain ⟨a, b, rfl⟩ := lenB h; exact ⟨[a, b, .none], by kernel_rfl, .cons rfl (.cons rfl (.cons (fun _ _ _ _ => .none) (.nil)))⟩
theorem sg_data {cx : Cx} (X : (hd.heap_39 P).In cx.g) : SigOk cx (fdAt (hd.heap_39 P) 97) 2 [] [("self", .arg 0), ("data", .arg 1)] :=
  sig_run _ X (by kernel_rfl) (by decide) fun vs h => by obtain ⟨a, b, rfl⟩ := lenB h; exact ⟨[a, b], by kernel_rfl, .cons rfl (.cons rfl (.nil))⟩
theorem sg_flush {cx : Cx} (X : (hd.heap_39 P).In cx.g) : SigOk cx (fdAt (hd.heap_39 P) 106) 1 [] [("self", .arg 0), ("_join_text", .dflt (.bm .tJoin (.str "")))] :=
  sig_run _ X (by kernel_rfl) (by decide) fun vs h => by obtain ⟨a, rfl⟩ := len1 h; exact ⟨[a, .ref 98], by kernel_rfl, .cons rfl (.cons (fun _ _ _ hk => .bm (p := .tJoin) (v := .str "" 437) rfl (hk _ _ (X 98 _ (by kernel_rfl))) (.str _ _)) (.nil))⟩
theorem sg_startns {cx : Cx} (X : (hd.heap_39 P).In cx.g) : SigOk cx (fdAt (hd.heap_39 P) 113) 3 [] [("self", .arg 0), ("prefix", .arg 1), ("uri", .arg 2)] :=
  sig_run _ X (by kernel_rfl) (by decide) fun vs h => by obtain ⟨a, b, c, rfl⟩ := len3 h; exact ⟨[a, b, c], by kernel_rfl, .cons rfl (.cons rfl (.cons rfl (.nil)))⟩
theorem sg_start {cx : Cx} (X : (hd.heap_39 P).In cx.g) : SigOk cx (fdAt (hd.heap_39 P) 120) 3 [] [("self", .arg 0), ("tag", .arg 1), ("attrs", .arg 2)] :=
  sig_run _ X (by kernel_rfl) (by decide) fun vs h => by obtain ⟨a, b, c, rfl⟩ := len3 h; exact ⟨[a, b, c], by kernel_rfl, .cons rfl (.cons rfl (.cons rfl (.nil)))⟩
theorem sg_start2 {cx : Cx} (X : (hd.heap_39 P).In cx.g) : SigOk cx (fdAt (hd.heap_39 P) 126) 4 [] [("self", .arg 0), ("tag", .arg 1), ("attrs", .arg 2), ("new_namespaces", .arg 3), ("qname_text", .dflt .none)] :=
  sig_run _ X (by kernel_rfl) (by decide) fun vs h => by obtain ⟨a, b, c, d, rfl⟩ := len4 h; exact ⟨[a, b, c, d, .none], by kernel_rfl, .cons rfl (.cons rfl (.cons rfl (.cons rfl (.cons (fun _ _ _ _ => .none) (.nil)))))⟩
theorem sg_end_ {cx : Cx} (X : (hd.heap_39 P).In cx.g) : SigOk cx (fdAt (hd.heap_39 P) 133) 2 [] [("self", .arg 0), ("tag", .arg 1)] :=
  sig_run _ X (by kernel_rfl) (by decide) fun vs h => by obtain ⟨a, b, rfl⟩ := lenB h; exact ⟨[a, b], by kernel_rfl, .cons rfl (.cons rfl (.nil))⟩
theorem sg_ecd {cx : Cx} (X : (hd.heap_39 P).In cx.g) : SigOk cx (fdAt (hd.heap_39 P) 161) 1 [] [("text", .arg 0)] :=
  sig_run _ X (by kernel_rfl) (by decide) fun vs h => by obtain ⟨a, rfl⟩ := len1 h; exact ⟨[a], by kernel_rfl, .cons rfl (.nil)⟩
theorem sg_eat {cx : Cx} (X : (hd.heap_39 P).In cx.g) : SigOk cx (fdAt (hd.heap_39 P) 168) 1 [] [("text", .arg 0)] :=
  sig_run _ X (by kernel_rfl) (by decide) fun vs h => by obtain ⟨a, rfl⟩ := len1 h; exact ⟨[a], by kernel_rfl, .cons rfl (.nil)⟩
theorem sig_all {cx : Cx} (X : (hd.heap_39 P).In cx.g) : ∀ {f fd n ks ps}, (cfg6 P sa is).fn f = some fd → (cfg6 P sa is).sig f n ks ps → SigOk cx fd n ks ps := by
  intro f fd n ks ps h1 h2
  cases h2 with
  | law => cases (fn_law P sa is).symm.trans h1; exact sg_law P X
  | walk => cases (fn_walk P sa is).symm.trans h1; exact sg_walk P X
  | init => cases (fn_init P sa is).symm.trans h1; exact sg_init P X
  | qname => cases (fn_qname P sa is).symm.trans h1; exact sg_qname P X
  | data => cases (fn_data P sa is).symm.trans h1; exact sg_data P X
  | flush => cases (fn_flush P sa is).symm.trans h1; exact sg_flush P X
  | startns => cases (fn_startns P sa is).symm.trans h1; exact sg_startns P X
  | start => cases (fn_start P sa is).symm.trans h1; exact sg_start P X
  | start2 => cases (fn_start' P sa is).symm.trans h1; exact sg_start2 P X
  | end_ => cases (fn_end P sa is).symm.trans h1; exact sg_end_ P X
  | ecd => cases (fn_ecd P sa is).symm.trans h1; exact sg_ecd P X
  | eat => cases (fn_eat P sa is).symm.trans h1; exact sg_eat P X
end
end Mine
end
section
open PySem PySem.W PyProof.Rows PySem.SeqAt
set_option maxRecDepth 100000
set_option maxHeartbeats 4000000
namespace Mine

noncomputable def H0 : Hp := ⟨fun _ => .tab 123 lamName, 1⟩

noncomputable def esAt (K : Frag) (a : Addr) : Array DictEntry := match K.lookup a with
  | some ⟨_, _, .dict es _, _⟩ => es
  | _ => #[]
noncomputable def epAt (K : Frag) (a : Addr) : Nat := match K.lookup a with
  | some ⟨_, _, .dict _ n, _⟩ => n
  | _ => 0
noncomputable def StrEnts (P : Params) : List DictEntry → Prop
  | [] => True
  | e :: r => (∃ x t y u, e.key = .str x t ∧ e.hash = PyData.keyHash P x ∧ e.val = .str y u) ∧ StrEnts P r
noncomputable def entStr (e : DictEntry) : Option (Str × Str) := match e.key, e.val with
  | .str k _, .str v _ => some (k, v)
  | _, _ => none
theorem ents_pairs {prog : Program} {w : World} : ∀ {l : List DictEntry}, StrEnts w.params l → (∀ e ∈ l, ∃ x, (PySem.strKind prog w).is x e.key = true ∧ e.hash = PyData.keyHash w.params x) ∧ ∃ ps : List (Str × Value), Pairs (PySem.strKind prog w) l ps ∧ ps.map (·.1) = (l.filterMap entStr).map (·.1) ∧ StrsAre (ps.map (·.2)) ((l.filterMap entStr).map (·.2)) ∧ ps.length = l.length
  | [], _ => ⟨fun _ h => by simp at h, [], .nil, rfl, .nil, rfl⟩
  | e :: l, ⟨⟨x, t, y, u, h1, h2, h3⟩, h⟩ => by
    obtain ⟨g1, ps, g2, g3, g4, g5⟩ := ents_pairs (prog := prog) h
    have es : entStr e = some (x, y) := by unfold entStr; rw [h1, h3]
    refine ⟨fun e' he => ?_, (x, e.val) :: ps, .cons (by rw [h1]; exact strKind_is prog w x t) rfl g2, ?_, ?_, by simp [g5]⟩
    · rcases List.mem_cons.mp he with rfl | he
      · exact ⟨x, by rw [h1]; exact strKind_is prog w x t, h2⟩
      · exact g1 e' he
    · rw [List.filterMap_cons, es]; simp [g3]
    · rw [List.filterMap_cons, es]
      simp only [List.map_cons, h3]
      exact .cons _ _ g4

theorem ints_rep {vs : List Value} {is : List Int} (h : IntsAre vs is) : ∀ n ρ h', RepL n ρ h' vs (is.map .int) := fun n ρ h' => by
  induction h with
  | nil => exact .nil
  | cons _ ih => rename_i ih; exact .cons (.int _ _) ih

theorem glue06 (hlaw : ∀ (P : Params) (sa : Addr) (is : List Int), is.length ≤ 63 → ∃ H', Ev (cfg6 P sa is).pe 150 (.c (.fn 178) [.fn sa] [] H0) (.v (.bool true) H') ∧ H'.f 0 = .tab 123 lamName) : PySem.Challenge.rw_dr0138_06.Holds := by
  refine hd ?_
  intro w s₀ s₁ mg mb G Y fa o pm cd doc dV kV ho hd hcd hD hmg hg args vals as hpre hlay hrd hwl hlo
  have KX := km_in_of Y
  have hT8 := km_tabs_of Y
  clear hcd hD hd ho
  refine Ground.open G ?_
  intro T B D TE TW
  wrow_args hpre hlay hrd hwl hlo
  rename_i is _ _ _ _ _ _ _ sa vs _ hL _ _ _ hI _ hlen _
  have hfa : fa = 178 := by
    have h1 := mg_of KX T.g (law_at w.params sa is)
    have h2 : mg "law" = some (.ref fa) := hmg
    rw [h1] at h2
    cases h2; rfl
  subst hfa
  clear hmg
  have hT : TabsAt [(125, 123)] s₁.heap := fun q hq => by
    rw [List.mem_singleton] at hq; subst hq
    exact ⟨codeHd_of_K KX (code_ok w.params sa is), hT8 123 (by simp)⟩
  have hl63 : is.length ≤ 63 := by
    have := hlen; lia
  obtain ⟨H', hev, hf0⟩ := hlaw w.params sa is hl63
  have GT := ghost_top hT T
  let cx : Cx := ⟨PySem.Challenge.rw_dr0138_06.row.prog, w, ghostOf s₁.heap [(125, 123)], s₁.os, hd.heap_39 w.params, (cfg6 w.params sa is).lamT⟩
  have KG : (hd.heap_39 w.params).In cx.g := ghost_K hT KX (noTabs_ok w.params sa is)
  have hst : HasSys cx := by
    obtain ⟨mc, ⟨o, _, _, e, _⟩, _⟩ := GT.nodigits
    exact ⟨o, e⟩
  have PK : PeOk (cfg6 w.params sa is).pe cx := by
    refine peOk_of (c := cfg6 w.params sa is) (mg := mg) (mb := mb) rfl rfl KG GT.g GT.b T.builtins GT.nolimit hst (init_ok w.params sa is) (cls_ok w.params sa is) ?_ ?_ ?_ (sig_all _ _ _ KG)
    · intro sc a P q h
      have h' : (if sc = (fdAt (hd.heap_39 w.params) 126).scope.names then some ((125 : Addr), (123 : Addr), lamName) else none) = some (a, P, q) := h
      split at h'
      · cases h'
        refine ⟨(ghost_code hT).1, mg, GT.g, ?_, by decide⟩
        obtain ⟨bm, ob, b1, b2, b3, b4, b5, b6⟩ := GT.bmain
        refine ⟨bm, ob, b1, b2, fun q => ?_, fun q => ?_, b3, b4, b5, b6⟩
        · obtain ⟨o, es, ep, ho, hd, _⟩ := GT.g
          rw [← q, b3] at ho; cases ho
          rw [b6] at hd; cases hd
        · rw [q, show (ghostOf s₁.heap [(125, 123)]).get? 123 = none from hideAll_none _ (by simp)] at b3
          cases b3
      · cases h'
    · intro a l h
      have h' : some ((44 : Addr), strsAt (hd.heap_39 w.params) 44) = some (a, l) := h
      cases h'
      refine ⟨list_ok w.params sa is, map_ok w.params sa is, ?_⟩
      have hl : (hd.heap_39 w.params).lookup 44 = some ⟨.type "dict", none, .dict (esAt (hd.heap_39 w.params) 44) (epAt (hd.heap_39 w.params) 44), #[]⟩ := by kernel_rfl
      have hE : StrEnts w.params (esAt (hd.heap_39 w.params) 44).toList := ⟨⟨_, _, _, _, rfl, rfl, rfl⟩, ⟨_, _, _, _, rfl, rfl, rfl⟩, ⟨_, _, _, _, rfl, rfl, rfl⟩, ⟨_, _, _, _, rfl, rfl, rfl⟩, ⟨_, _, _, _, rfl, rfl, rfl⟩, ⟨_, _, _, _, rfl, rfl, rfl⟩, ⟨_, _, _, _, rfl, rfl, rfl⟩, trivial⟩
      obtain ⟨g1, ps, g2, g3, g4, g5⟩ := ents_pairs (prog := PySem.Challenge.rw_dr0138_06.row.prog) hE
      have hs : strsAt (hd.heap_39 w.params) 44 = (esAt (hd.heap_39 w.params) 44).toList.filterMap entStr := by kernel_rfl
      have hz : (esAt (hd.heap_39 w.params) 44).toList.length = 7 := by kernel_rfl
      have hn : (((esAt (hd.heap_39 w.params) 44).toList.filterMap entStr).map (·.1)).Nodup := by
        have : decide (((esAt (hd.heap_39 w.params) 44).toList.filterMap entStr).map (·.1)).Nodup = true := by kernel_rfl
        simpa using this
      refine ⟨ps, by decide, by lia, ⟨_, _, _, KG _ _ hl, ⟨rfl, rfl, rfl⟩, rfl, fun e he => g1 e (Array.mem_toList_iff.mpr he), g2, by rw [g3]; exact hn⟩, by rw [hs]; exact g3, by rw [hs]; exact g4⟩
    · intro a js h
      have h' : (if a = sa then some is else none) = some js := h
      split at h'
      · rename_i e
        subst e; cases h'
        exact ⟨by lia, vs.toArray, ghost_list hT hL, fun n ρ h => by simpa using ints_rep hI n ρ h⟩
      · cases h'
  have I0 : Inv cx (fun _ => 123) H0 s₁ := by
    refine ⟨fun b o e => of_hideAll _ e, rfl, .of_eq hg, fun i hi => ?_, fun i j hi hj _ => ?_, fun i hi => hideAll_none _ (by simp), hst, fun i hi => by decide⟩
    · exact ⟨rfl, #[], (hT (125, 123) (by simp)).2, trivial, fun pos cv e => by cases e⟩
    · have h1 : i < 1 := hi
      have h2 : j < 1 := hj
      lia
  have go : GCall cx 150 _ _ _ _ _ _ := hev.go PK
  unfold GCall at go
  refine go (fv := .ref 178) (first := []) (vs := [.ref sa]) (kvs := []) ⟨rfl, by decide, by decide⟩ I0 (.obj (.fn 178)) (.cons (.fn sa) .nil) ⟨rfl, .nil⟩ fun v s' ρ' S r => ?_
  have hv := r.inv_bool
  subst hv
  have keep : ∀ b o, b ≠ 123 → s₁.heap.get? b = some o → s'.heap.get? b = some o := fun b o hb e => S.inv.keep b o (ghost_ne e (by simpa using hb))
  have hr0 := S.inv.objs 0 (Nat.lt_of_lt_of_le (by decide) S.le)
  rw [hf0, S.agr 0 (by decide)] at hr0
  obtain ⟨_, ps, hps, _⟩ := hr0
  refine ⟨.inl ⟨_, .bool true, [], rfl, fun _ => rfl, .bool true, ?_, fun _ => ⟨.nil, fun _ h => by simp at h⟩⟩, ⟨fun b o e => ?_, fun b o e => ?_⟩, S.inv.os, S.inv.bare⟩
  · first | wrow_post | kernel_rfl
  · by_cases hb : b = 123
    · subst hb
      have e2 := (hT (125, 123) (by simp)).2
      rw [e] at e2
      cases e2
      exact .inr (.inl ⟨((hT (125, 123) (by simp)).1.tab (hT (125, 123) (by simp)).2).isCodeTable, rfl, #[], ps, rfl, by rw [Array.empty_append]; exact hps⟩)
    · exact .inl (keep b o hb e)
  · by_cases hb : b = 123
    · subst hb; exact ⟨_, hps⟩
    · exact ⟨o, keep b o hb e⟩
end Mine
end
section
open PySem PySem.W PyProof.Rows PySem.SeqAt Mine.Ev Mine.Prm Mine.PrF
namespace Mine
theorem empty_append (y : Str) : Str.empty ++ y = y := by
  cases y with
  | mk c => show Str.mk (#[] ++ c) = _; simp
theorem leR {a b : Nat} (h : Nat.ble a b = true) : a ≤ b := Nat.le_of_ble_eq_true h
noncomputable def eqS : V → V → Option Bool
  | .str a, .str b => some (a == b)
  | .int a, .int b => some (a == b)
  | _, _ => none
noncomputable def ltI (f : Int → Int → Bool) : V → V → Option Bool
  | .int a, .int b => some (f a b)
  | _, _ => none
noncomputable def cmpS (op : CmpOp) (a b : V) : Option Bool := match op with
  | .Eq => eqS a b
  | .NotEq => (eqS a b).map (!·)
  | .Lt => ltI (fun x y => decide (x < y)) a b
  | .Gt => ltI (fun x y => decide (x > y)) a b
  | .Is => if isNone b then some (isNone a) else none
  | .IsNot => if isNone b then some (!isNone a) else none
  | _ => none
theorem eqS_of {H : Hp} {a b : V} {t : Bool} (h : eqS a b = some t) : EqV H a b t := by
  cases a with
  | str x => cases b with
    | str y => cases h; exact .str
    | _ => first | exact noS h | exact noB h | cases h
  | int x => cases b with
    | int y => cases h; exact .int
    | _ => first | exact noS h | exact noB h | cases h
  | _ => first | exact noS h | exact noB h | cases h
theorem ltI_of {f : Int → Int → Bool} {a b : V} {t : Bool} (h : ltI f a b = some t) : ∃ x y, a = .int x ∧ b = .int y ∧ t = f x y := by
  cases a with
  | int x => cases b with
    | int y => cases h; exact ⟨x, y, rfl, rfl, rfl⟩
    | _ => first | exact noS h | exact noB h | cases h
  | _ => first | exact noS h | exact noB h | cases h
theorem isNone_of {b : V} (h : isNone b = true) : b = .none := by
  cases b with
  | none => rfl
  | _ => first | exact noS h | exact noB h | cases h
theorem cmpR {H : Hp} {op : CmpOp} {a b : V} {t : Bool} (h : cmpS op a b = some t) : Cmp H op a b t := by
  cases op with
  | Eq => exact .eq (eqS_of h)
  | NotEq => obtain ⟨r, h', rfl⟩ := map_some h; exact .ne (eqS_of h')
  | Lt => obtain ⟨x, y, rfl, rfl, rfl⟩ := ltI_of h; exact .lt
  | Gt => obtain ⟨x, y, rfl, rfl, rfl⟩ := ltI_of h; exact .gt
  | Is => obtain ⟨h', rfl⟩ := ite_some h; cases isNone_of h'; exact .is
  | IsNot => obtain ⟨h', rfl⟩ := ite_some h; cases isNone_of h'; exact .isnt
  | _ => first | exact noS h | exact noB h | cases h
noncomputable def addV : V → V → Option V
  | .str x, .str y => if x.length + y.length ≤ lim then some (.str (x ++ y)) else none
  | .int x, .int y => some (.int (x + y))
  | _, _ => none
noncomputable def intV (f : Int → Int → Int) (p : Int → Bool) : V → V → Option V
  | .int x, .int y => if p y = true then some (.int (f x y)) else none
  | _, _ => none
noncomputable def binS (op : Operator) (a b : V) : Option V := match op with
  | .Add => addV a b
  | .Sub => intV (· - ·) (fun _ => true) a b
  | .FloorDiv => intV (· / ·) (fun y => decide (0 < y ∧ y < 2 ^ 30)) a b
  | .Mod => intV (· % ·) (fun y => decide (0 < y ∧ y < 2 ^ 30)) a b
  | _ => none
theorem addV_of {H : Hp} {a b v : V} (h : addV a b = some v) : Bin H .Add a b v H := by
  cases a with
  | str x => cases b with
    | str y => obtain ⟨h', rfl⟩ := ite_some h; exact .addS h'
    | _ => first | exact noS h | exact noB h | cases h
  | int x => cases b with
    | int y => exact Option.some.inj h ▸ .addI
    | _ => first | exact noS h | exact noB h | cases h
  | _ => first | exact noS h | exact noB h | cases h
theorem intV_of {f : Int → Int → Int} {p : Int → Bool} {a b v : V} (h : intV f p a b = some v) : ∃ x y, a = .int x ∧ b = .int y ∧ p y = true ∧ v = .int (f x y) := by
  cases a with
  | int x => cases b with
    | int y => obtain ⟨h', rfl⟩ := ite_some h; exact ⟨x, y, rfl, rfl, h', rfl⟩
    | _ => first | exact noS h | exact noB h | cases h
  | _ => first | exact noS h | exact noB h | cases h
theorem binR {H : Hp} {op : Operator} {a b v : V} (h : binS op a b = some v) : Bin H op a b v H := by
  cases op with
  | Add => exact addV_of h
  | Sub => obtain ⟨x, y, rfl, rfl, _, rfl⟩ := intV_of h; exact .subI
  | FloorDiv => obtain ⟨x, y, rfl, rfl, h', rfl⟩ := intV_of h; exact .divI (of_decide_eq_true h')
  | Mod => obtain ⟨x, y, rfl, rfl, h', rfl⟩ := intV_of h; exact .modI (of_decide_eq_true h')
  | _ => first | exact noS h | exact noB h | cases h

/-- fixed places ahead of others -/
noncomputable def ifs : List (Nat × AObj) → (Nat → AObj) → Nat → AObj
  | [], G, i => G i
  | (k, o) :: r, G, i => if i = k then o else ifs r G i
noncomputable def setK : List (Nat × AObj) → Nat → AObj → List (Nat × AObj)
  | [], _, _ => []
  | (k, o) :: r, j, p => if j = k then (k, p) :: r else (k, o) :: setK r j p
theorem ifs_set {G : Nat → AObj} {k : Nat} {o : AObj} : ∀ {l : List (Nat × AObj)}, k ∈ l.map (·.1) → ∀ i, (if i = k then o else ifs l G i) = ifs (setK l k o) G i
  | (j, p) :: r, h, i => by
    unfold setK
    by_cases hj : k = j
    · rw [if_pos hj]
      show _ = if i = j then o else ifs r G i
      by_cases hi : i = j
      · rw [if_pos hi, if_pos (hi.trans hj.symm)]
      · rw [if_neg hi, if_neg fun q => hi (q.trans hj)]; exact if_neg hi
    · rw [if_neg hj]
      have ih := ifs_set (G := G) (o := o) ((List.mem_cons.mp h).resolve_left hj) i
      show _ = if i = j then p else ifs (setK r k o) G i
      by_cases hi : i = j
      · rw [if_pos hi, if_neg fun q => hj (q.symm.trans hi)]; exact if_pos hi
      · rw [if_neg hi, ← ih]
        by_cases hk : i = k
        · rw [if_pos hk, if_pos hk]
        · rw [if_neg hk, if_neg hk]; exact if_neg hi
theorem ifs_put {G : Nat → AObj} {l : List (Nat × AObj)} {k n : Nat} {o : AObj} (h : k ∈ l.map (·.1)) : (⟨ifs l G, n⟩ : Hp).put k o = ⟨ifs (setK l k o) G, n⟩ := congrArg (fun f => Hp.mk f n) (funext (ifs_set h))
noncomputable def upd (G : Nat → AObj) (i : Nat) (o : AObj) : Nat → AObj := fun j => if j = i then o else G j
theorem ifs_none {G : Nat → AObj} {i : Nat} : ∀ {l : List (Nat × AObj)}, i ∉ l.map (·.1) → ifs l G i = G i
  | [], _ => rfl
  | (k, o) :: r, h => (if_neg fun (q : i = k) => h (by rw [q]; exact List.mem_cons_self)).trans (ifs_none fun q => h (List.mem_cons_of_mem _ q))
theorem ifs_upd {G : Nat → AObj} {i : Nat} {o : AObj} : ∀ {l : List (Nat × AObj)}, i ∉ l.map (·.1) → ∀ j, (if j = i then o else ifs l G j) = ifs l (upd G i o) j
  | [], _, j => rfl
  | (k, p) :: r, h, j => by
    have ih := ifs_upd (G := G) (o := o) (l := r) (fun q => h (List.mem_cons_of_mem _ q)) j
    have hk : i ≠ k := fun q => h (q ▸ List.mem_cons_self)
    show _ = if j = k then p else ifs r (upd G i o) j
    rw [← ih]
    by_cases hj : j = k
    · rw [if_pos hj, if_neg fun q => hk (q.symm.trans hj)]; exact if_pos hj
    · rw [if_neg hj]
      by_cases hi : j = i
      · rw [if_pos hi, if_pos hi]
      · rw [if_neg hi, if_neg hi]; exact if_neg hj

section
variable {pe : Pe} {n : Nat} {sc : Sc} {loc loc1 loc2 loc' : Loc} {H H0 H1 H2 : Hp} {u x : V} {p : Pos} {target : Expr} {body : List Stmt} {fl fl' : Fl} {xs : List V} {src : Option Nat}
theorem asg_Name {y : Str} (h : own sc y = true) : Ev pe n (.asg sc (.Name y p) u loc H) (.s (setL loc y u) H) := .asg_Bind (if_pos h)
theorem asg_Tup {ts : List Expr} {j : Nat} (h1 : unp H u = some xs) (h2 : bindTs sc ts xs loc = some loc') : Ev pe n (.asg sc (.Tuple ts j p) u loc H) (.s loc' H) := .asg_Bind (by
  show (unp H u).bind _ = _
  rw [h1]; exact h2)
/-- a turn of a loop -/
noncomputable def Turn (pe : Pe) (n : Nat) (sc : Sc) (target : Expr) (body : List Stmt) (x : V) (loc : Loc) (H : Hp) (fl : Fl) (loc' : Loc) (H' : Hp) : Prop := ∃ loc1, bindT sc H target x loc = some loc1 ∧ Ev pe n (.xs sc body loc1 H) (.f fl loc' H')
theorem fb (h1 : bindT sc H target x loc = some loc1) (h2 : Ev pe n (.xs sc body loc1 H) (.f fl loc' H1)) : Turn pe n sc target body x loc H fl loc' H1 := ⟨_, h1, h2⟩
theorem for_go (h1 : Turn pe n sc target body x loc H fl loc2 H1) (hg : goesOn fl = true) (h2 : Ev pe n (.for sc target body src H0 xs loc2 H1) (.f fl' loc' H2)) (h3 : stands H0 H1 src) : Ev pe n (.for sc target body src H0 (x :: xs) loc H) (.f fl' loc' H2) := let ⟨_, a, b⟩ := h1; .for_cons a b hg h3 h2
theorem for_end {v : V} (h1 : Turn pe n sc target body x loc H (.ret v) loc' H1) : Ev pe n (.for sc target body src H0 (x :: xs) loc H) (.f (.ret v) loc' H1) := let ⟨_, a, b⟩ := h1; .for_ret a b
theorem stands_refl : stands H H src := by cases src; exact trivial; rfl
theorem items_ref {i : Nat} (h : H.f i = .list xs) : items H (.ref i) = some (xs, some i) := by
  show itemsO i (H.f i) = _
  rw [h]; rfl
theorem unp_ref {i : Nat} (h : H.f i = .list xs) : unp H (.ref i) = some xs := by
  show unpO (H.f i) = _
  rw [h]; rfl
theorem attr_list {i : Nat} {name : Str} {m : Pm} (h : H.f i = .list xs) (hm : listTab.lookup name = some m) : attr pe H name (.ref i) = some (.bm m (.ref i)) := by
  show attrR pe H name i (H.f i) = _
  rw [h]; show (listTab.lookup name).map _ = _
  rw [hm]; rfl
theorem attr_dict {i : Nat} {name : Str} {m : Pm} {kvs : List (Str × V)} (h : H.f i = .dict kvs) (hm : dictTab.lookup name = some m) : attr pe H name (.ref i) = some (.bm m (.ref i)) := by
  show attrR pe H name i (H.f i) = _
  rw [h]; show (dictTab.lookup name).map _ = _
  rw [hm]; rfl
theorem attr_set {i : Nat} {name : Str} {m : Pm} {ks : List Str} (h : H.f i = .set ks) (hm : setTab.lookup name = some m) : attr pe H name (.ref i) = some (.bm m (.ref i)) := by
  show attrR pe H name i (H.f i) = _
  rw [h]; show (setTab.lookup name).map _ = _
  rw [hm]; rfl
theorem idx_dict {i : Nat} {k : Str} {kvs : List (Str × V)} (h : H.f i = .dict kvs) : index H (.ref i) (.str k) = kvs.lookup k := by
  show idxO (H.f i) _ = _
  rw [h]; rfl
theorem idx_list {i : Nat} {k : Int} (h : H.f i = .list xs) : index H (.ref i) (.int k) = atIdx xs k := by
  show idxO (H.f i) _ = _
  rw [h]; rfl
theorem lk_app {l m : Loc} : ∀ y v, l.lookup y = some v → (l ++ m).lookup y = some v := fun y v h => by rw [List.lookup_append, h]; rfl
theorem ifs_one {a : Expr} {b : Bool} (h : Ev pe n (.t sc loc a H) (.b b H1)) : Ev pe n (.ifs sc loc [a] H) (.b b H1) := by
  cases b
  · exact .ifs_false h
  · exact .ifs_true h .ifs_nil
/-- a comprehension that makes nothing -/
theorem cl_flat {em : Em} {gens : List Comprehension} {ifs : List Expr} {f : V → List V} : ∀ {xs : List V}, (∀ x ∈ xs, ∃ loc', bindT sc H target x loc = some loc' ∧ ((Ev pe n (.ifs sc loc' ifs H) (.b true H) ∧ Ev pe n (.inn sc em gens loc' H) (.l (f x) H)) ∨ (Ev pe n (.ifs sc loc' ifs H) (.b false H) ∧ f x = []))) → stands H H src →
    Ev pe n (.cl sc em gens target ifs loc src H xs H) (.l (xs.flatMap f) H)
  | [], _, _ => .cl_nil
  | x :: xs, h, hs => by
    rw [List.flatMap_cons]
    obtain ⟨loc', h1, h2⟩ := h x List.mem_cons_self
    have ih := cl_flat (fun y hy => h y (List.mem_cons_of_mem _ hy)) hs
    rcases h2 with ⟨h2, h3⟩ | ⟨h2, h3⟩
    · exact .cl_cons h1 h2 h3 hs ih
    · rw [h3]; exact .cl_skip h1 h2 hs ih
theorem cl_id {em : Em} {gens : List Comprehension} {ifs : List Expr} (h : ∀ x ∈ xs, ∃ loc', bindT sc H target x loc = some loc' ∧ Ev pe n (.ifs sc loc' ifs H) (.b true H) ∧ Ev pe n (.inn sc em gens loc' H) (.l [x] H)) (hs : stands H H src) : Ev pe n (.cl sc em gens target ifs loc src H xs H) (.l xs H) := by
  have := cl_flat (f := fun x => [x]) (fun x hx => let ⟨l, a, b⟩ := h x hx; ⟨l, a, .inl b⟩) hs
  rwa [List.flatMap_singleton'] at this
end
end Mine
end
section
open PySem PySem.W PyProof.Rows PySem.SeqAt Mine.Ev Mine.Prm Mine.PrF
set_option maxRecDepth 100000
namespace Mine

noncomputable def kvs6 (seen done : Bool) : List (Str × V) := [("_write", .bm .lAppend (.ref 1)), ("_data", .ref 5), ("_with_comments", .bool false), ("_strip_text", .bool false), ("_exclude_attrs", .none), ("_exclude_tags", .none), ("_rewrite_prefixes", .bool false), ("_qname_aware_tags", .none), ("_find_qname_aware_attrs", .none),
  ("_declared_ns_stack", .ref 7), ("_ns_stack", .ref 8), ("_prefix_map", .ref 11), ("_preserve_space", .ref 12), ("_pending_start", .none), ("_root_seen", .bool seen), ("_root_done", .bool done), ("_ignored_depth", .int 0), ("_iter_namespaces", .fn 173)]

structure S6 where
  out : List V
  path : List V
  seen : Bool
  done : Bool
  dat : List V
  decl : List V
  ns : List V
  pres : List V

/-- the heap while the law runs -/
noncomputable def fix6 (s : S6) : List (Nat × AObj) := [(0, .tab 123 lamName), (1, .list s.out), (2, .list s.path), (3, .ns (kvs6 s.seen s.done)), (4, .inst 150 3), (5, .list s.dat), (7, .list s.decl), (8, .list s.ns), (11, .dict []), (12, .list s.pres)]
noncomputable def mk6 (s : S6) (G : Nat → AObj) (n : Nat) : Hp := ⟨ifs (fix6 s) G, n⟩
noncomputable def okId (i : Nat) : Prop := i = 6 ∨ i = 9 ∨ i = 10 ∨ 13 ≤ i
variable {s : S6} {G : Nat → AObj} {n : Nat}
theorem okId.out {i : Nat} (h : okId i) : i ∉ (fix6 s).map (·.1) := by
  have hl : (fix6 s).map (·.1) = [0, 1, 2, 3, 4, 5, 7, 8, 11, 12] := rfl
  rw [hl]
  rcases h with rfl | rfl | rfl | h
  · decide
  · decide
  · decide
  · intro q
    have : ∀ k ∈ [0, 1, 2, 3, 4, 5, 7, 8, 11, 12], k < 13 := by decide
    exact absurd (this i q) (Nat.not_lt.mpr h)
theorem mk6_at {i : Nat} (h : okId i) : (mk6 s G n).f i = G i := ifs_none h.out
theorem mk6_put {i : Nat} {o : AObj} (h : okId i) : (mk6 s G n).put i o = mk6 s (upd G i o) n := congrArg (fun f => Hp.mk f n) (funext (ifs_upd h.out))
theorem mk6_alloc {o : AObj} (h : 13 ≤ n) : (mk6 s G n).alloc o = mk6 s (upd G n o) (n + 1) := congrArg (fun f => Hp.mk f (n + 1)) (funext (ifs_upd (okId.out (s := s) (.inr (.inr (.inr h))))))
theorem put1 {xs : List V} : (mk6 s G n).put 1 (.list xs) = mk6 { s with out := xs } G n := ifs_put (l := fix6 s) (by show 1 ∈ [0, 1, 2, 3, 4, 5, 7, 8, 11, 12]; decide)
theorem put2 {xs : List V} : (mk6 s G n).put 2 (.list xs) = mk6 { s with path := xs } G n := ifs_put (l := fix6 s) (by show 2 ∈ [0, 1, 2, 3, 4, 5, 7, 8, 11, 12]; decide)
theorem put5 {xs : List V} : (mk6 s G n).put 5 (.list xs) = mk6 { s with dat := xs } G n := ifs_put (l := fix6 s) (by show 5 ∈ [0, 1, 2, 3, 4, 5, 7, 8, 11, 12]; decide)
theorem put7 {xs : List V} : (mk6 s G n).put 7 (.list xs) = mk6 { s with decl := xs } G n := ifs_put (l := fix6 s) (by show 7 ∈ [0, 1, 2, 3, 4, 5, 7, 8, 11, 12]; decide)
theorem put8 {xs : List V} : (mk6 s G n).put 8 (.list xs) = mk6 { s with ns := xs } G n := ifs_put (l := fix6 s) (by show 8 ∈ [0, 1, 2, 3, 4, 5, 7, 8, 11, 12]; decide)
theorem put12 {xs : List V} : (mk6 s G n).put 12 (.list xs) = mk6 { s with pres := xs } G n := ifs_put (l := fix6 s) (by show 12 ∈ [0, 1, 2, 3, 4, 5, 7, 8, 11, 12]; decide)
theorem putNs {seen done : Bool} : (mk6 s G n).put 3 (.ns (kvs6 seen done)) = mk6 { s with seen := seen, done := done } G n := ifs_put (l := fix6 s) (by show 3 ∈ [0, 1, 2, 3, 4, 5, 7, 8, 11, 12]; decide)
theorem putSeen {b : Bool} : putN (mk6 s G n) 3 "_root_seen" (.bool b) ((mk6 s G n).f 3) = some (mk6 { s with seen := b } G n) := congrArg some (putNs (s := s) (seen := b) (done := s.done))
theorem putDone {b : Bool} : putN (mk6 s G n) 3 "_root_done" (.bool b) ((mk6 s G n).f 3) = some (mk6 { s with done := b } G n) := congrArg some (putNs (s := s) (seen := s.seen) (done := b))

variable {P : Params} {sa : Addr} {is : List Int}
noncomputable abbrev pe6 (P : Params) (sa : Addr) (is : List Int) : Pe := (cfg6 P sa is).pe
theorem init_none {f : Addr} (h : f ≠ 150) : (pe6 P sa is).init f = none := if_neg h

theorem body_data : (fdAt (hd.heap_39 P) 97).body = .stmts (bodyAt (hd.heap_39 P) 97) := by kernel_rfl
noncomputable def sc_data : Sc := [("self", .local), ("data", .local)]
theorem nm_data : (fdAt (hd.heap_39 P) 97).scope.names = sc_data := by kernel_rfl

theorem t_data {k : Nat} {x : Str} (h6 : s.dat.length < lim) :
    Ev (pe6 P sa is) (k + 12) (.c (.mt 97 (.ref 4)) [.str x] [] (mk6 s G n)) (.v .none (mk6 { s with dat := s.dat ++ [.str x] } G n)) := by
  exact c_mt (run_fn (fn_data P sa is) .data body_data nm_data
    (xs_cons (xv_If (tv_Not (tv_Gen rfl (ev_Attr rfl (ev_Name rfl) rfl rfl) rfl)) (xs_cons (xv_Expr rfl (ev_CallA rfl rfl (by decide) (ev_Attr rfl (ev_Name rfl) rfl rfl) rfl rfl (evL_cons rfl (ev_Name rfl) evL_nil) evKw_nil (c_bm (pv_append rfl h6 put5)))) xs_nil)) xs_nil) rfl)
end Mine
end
section
open PySem PySem.W PyProof.Rows PySem.SeqAt Mine.Ev Mine.Prm Mine.PrF
set_option maxRecDepth 100000
namespace Mine

theorem fm_congr {α β : Type} {f g : α → Option β} : ∀ {l : List α}, (∀ x ∈ l, f x = g x) → l.filterMap f = l.filterMap g
  | [], _ => rfl
  | x :: l, h => by
    rw [List.filterMap_cons, List.filterMap_cons, h x List.mem_cons_self, fm_congr fun y hy => h y (List.mem_cons_of_mem _ hy)]
theorem filterMap_rev {α : Type} (xs : List α) : ((List.range xs.length).map fun k => xs.length - 1 - k).filterMap (xs[·]?) = xs.reverse := by
  rw [List.filterMap_map]
  have : ∀ k ∈ List.range xs.length, ((fun x => xs[x]?) ∘ fun k => xs.length - 1 - k) k = xs.reverse[k]? := fun k hk => by
    have hk' : k < xs.length := List.mem_range.mp hk
    show xs[xs.length - 1 - k]? = _
    rw [List.getElem?_reverse hk']
  rw [fm_congr this]
  rw [← List.length_reverse]
  generalize xs.reverse = ys
  clear this
  induction ys with
  | nil => rfl
  | cons y ys ih =>
    rw [List.length_cons, List.range_succ_eq_map, List.filterMap_cons]
    simp only [List.getElem?_cons_zero, List.filterMap_map]
    congr 1
theorem cutV_rev (xs : List V) : cutV xs none none (some (-1)) = xs.reverse := by
  unfold cutV
  rw [← filterMap_rev xs]
  congr 1
  unfold sliceBounds sliceRange
  simp only [Option.getD_some]
  simp only [show ¬ ((-1 : Int) > 0) from by decide, if_false]
  have e : (if (xs.length : Int) - 1 > -1 then ((xs.length : Int) - 1 - -1 - -1 - 1) / (- -1) else 0).toNat = xs.length := by
    split
    · simp
    · lia
  rw [e]
  refine List.map_congr_left fun k hk => ?_
  have := List.mem_range.mp hk
  lia

variable {P : Params} {sa : Addr} {is : List Int}
theorem body_walk : (fdAt (hd.heap_39 P) 173).body = .stmts (bodyAt (hd.heap_39 P) 173) := by kernel_rfl
noncomputable def sc_walk : Sc := [("stack", .local)]
theorem nm_walk : (fdAt (hd.heap_39 P) 173).scope.names = sc_walk := by kernel_rfl

theorem t_walk {k : Nat} {H : Hp} {i : Nat} {ids : List Nat} {lv : Nat → List V} (h1 : H.f i = .list (ids.map .ref)) (h2 : ∀ j ∈ ids, H.f j = .list (lv j)) (hj : ∀ j ∈ ids, j < H.n) (hl : ids.length ≤ 1000) (hl2 : (ids.reverse.flatMap lv).length ≤ lim) :
    Ev (pe6 P sa is) (k + 12) (.c (.fn 173) [.ref i] [] H) (.v (.ref (H.n + 1)) ((H.alloc (.list (ids.reverse.map .ref))).alloc (.list (ids.reverse.flatMap lv)))) := by
  have hc : cutV (ids.map .ref) none none (some (-1)) = ids.reverse.map .ref := by rw [cutV_rev, List.map_reverse]
  have hal : (H.alloc (.list (cutV (ids.map .ref) none none (some (-1))))) = H.alloc (.list (ids.reverse.map .ref)) := by rw [hc]
  have hfn : (H.alloc (.list (ids.reverse.map V.ref))).f H.n = .list (ids.reverse.map .ref) := if_pos rfl
  refine c_fn (init_none (by decide)) (run_fn (fn_walk P sa is) .walk body_walk nm_walk (xs_stop (xv_Ret (ev_Comp (ev_LC rfl rfl (ev_Slice (ev_Name rfl) opt_none opt_none (opt_some (ev_Neg (ev_Const rfl))) (.list h1 (by decide) (by rw [List.length_map]; exact Nat.le_trans hl (by decide)) hal)) (items_ref hfn) rfl ?_ hl2 rfl))) rfl) rfl)
  have hlv : ∀ j ∈ ids, items (H.alloc (.list (ids.reverse.map .ref))) (.ref j) = some (lv j, some j) := fun j hj' =>
    items_ref ((if_neg (Nat.ne_of_lt (hj j hj'))).trans (h2 j hj'))
  have e : ids.reverse.flatMap lv = (ids.reverse.map V.ref).flatMap fun x => match x with | .ref j => lv j | _ => [] := by rw [List.flatMap_map]
  rw [e]
  refine cl_flat (fun x hx => ?_) rfl
  obtain ⟨j, hj', rfl⟩ := List.mem_map.mp hx
  refine ⟨_, rfl, .inl ⟨ifs_nil, in_next rfl (ev_Name rfl) (hlv j (List.mem_reverse.mp hj')) rfl ?_⟩⟩
  exact cl_id (fun x _ => ⟨_, rfl, ifs_nil, in_el (ev_Name rfl)⟩) rfl
end Mine
end
section
open PySem PySem.W PyProof.Rows PySem.SeqAt Mine.Ev Mine.Prm Mine.PrF
set_option maxRecDepth 100000
namespace Mine

noncomputable def pv (p : Str × Str) : V := .tup [.str p.1, .str p.2]
noncomputable def scan (uri : Str) : List (Str × Str) → List Str → Option Str × List Str
  | [], ks => (none, ks)
  | (u, p) :: r, ks => if u = uri ∧ p ∉ ks then (some p, ks) else scan uri r (addL ks p)
noncomputable def colon : Str := ":"
noncomputable def nameOf (p tag : Str) : Str := if p.length = 0 then tag else Str.empty ++ p ++ colon ++ tag
noncomputable def forB : Option Stmt → List Stmt
  | some (.For _ _ b _ _) => b
  | _ => []
noncomputable def forT : Option Stmt → Expr
  | some (.For t _ _ _ _) => t
  | _ => .Constant .none 0 ⟨0, 0, 0, 0⟩

theorem cmp_eqT {H : Hp} {a b : Str} (h : a = b) : Cmp H .Eq (.str a) (.str b) true := beq_iff_eq.mpr h ▸ .eq .str
theorem cmp_eqF {H : Hp} {a b : Str} (h : a ≠ b) : Cmp H .Eq (.str a) (.str b) false := beq_false_of_ne h ▸ .eq .str
theorem cmp_ninT {H : Hp} {p : Str} {m : Nat} {ks : List Str} (h : H.f m = .set ks) (hp : p ∉ ks) : Cmp H .NotIn (.str p) (.ref m) true := by
  have := Cmp.nin (InV.set (x := p) h)
  rwa [show ks.contains p = false from by simpa using hp] at this
theorem cmp_ninF {H : Hp} {p : Str} {m : Nat} {ks : List Str} (h : H.f m = .set ks) (hp : p ∈ ks) : Cmp H .NotIn (.str p) (.ref m) false := by
  have := Cmp.nin (InV.set (x := p) h)
  rwa [List.contains_iff_mem.mpr hp] at this
theorem tr_strT {H : Hp} {p : Str} (hl : p.length ≤ lim) (h : p.length ≠ 0) : truth H (.str p) = some true := (if_pos hl).trans (congrArg some (bne_iff_ne.mpr h))
theorem tr_strF {H : Hp} {p : Str} (h : p.length = 0) : truth H (.str p) = some false := (if_pos (by rw [h]; exact Nat.zero_le _)).trans (congrArg some (by rw [h]; rfl))
theorem len_addL (ks : List Str) (k : Str) : (addL ks k).length ≤ ks.length + 1 := by
  unfold addL; split <;> simp

variable {s : S6} {G : Nat → AObj} {n : Nat} {P : Params} {sa : Addr} {is : List Int}
noncomputable def sc_qname : Sc := [("self", .local), ("qname", .local), ("uri", .local), ("tag", .local), ("prefixes_seen", .local), ("u", .local), ("prefix", .local), ("set", .globalImplicit), ("len", .globalImplicit), ("ValueError", .globalImplicit)]
theorem nm_qname : (fdAt (hd.heap_39 P) 90).scope.names = sc_qname := by kernel_rfl
theorem body_qname : (fdAt (hd.heap_39 P) 90).body = .stmts (bodyAt (hd.heap_39 P) 90) := by kernel_rfl

noncomputable def base90 (q uri tag : Str) (m : Nat) : Loc := [("self", .ref 4), ("qname", .str q), ("uri", .str uri), ("tag", .str tag), ("prefixes_seen", .ref m)]
noncomputable def base90' (q uri tag : Str) (m : Nat) (a b : V) : Loc := [("self", .ref 4), ("qname", .str q), ("uri", .str uri), ("tag", .str tag), ("prefixes_seen", .ref m), ("u", a), ("prefix", b)]

/-- a turn of the loop that is the body's i-th statement -/
noncomputable abbrev bodyQ (P : Params) (sa : Addr) (is : List Int) (k i : Nat) (x : V) (loc : Loc) (H : Hp) (fl : Fl) (loc' : Loc) (H' : Hp) : Prop := Turn (pe6 P sa is) k sc_qname (forT (bodyAt (hd.heap_39 P) 90)[i]?) (forB (bodyAt (hd.heap_39 P) 90)[i]?) x loc H fl loc' H'
noncomputable abbrev loopQ (P : Params) (sa : Addr) (is : List Int) (k i : Nat) (src : Option Nat) (H0 : Hp) (xs : List V) (loc : Loc) (H : Hp) (fl : Fl) (loc' : Loc) (H' : Hp) : Prop := Ev (pe6 P sa is) k (.for sc_qname (forT (bodyAt (hd.heap_39 P) 90)[i]?) (forB (bodyAt (hd.heap_39 P) 90)[i]?) src H0 xs loc H) (.f fl loc' H')

/-- one turn of the first loop -/
theorem q_hit {k : Nat} {q uri tag : Str} {m : Nat} {p : Str} {ks : List Str} (hm : okId m) (hG : G m = .set ks) (hp : p ∉ ks) (hl : p.length ≤ 1000) (ht : tag.length ≤ 1000) :
    bodyQ P sa is (k + 12) 2 (pv (uri, p)) (base90 q uri tag m) (mk6 s G n) (.ret (.tup [.str (nameOf p tag), .str tag, .str uri])) (base90' q uri tag m (.str uri) (.str p)) (mk6 s G n) := by
  have hset : (mk6 s G n).f m = .set ks := (mk6_at hm).trans hG
  have hb : bindT sc_qname (mk6 s G n) (forT (bodyAt (hd.heap_39 P) 90)[2]?) (pv (uri, p)) (base90 q uri tag m) = some (base90' q uri tag m (.str uri) (.str p)) := rfl
  refine fb hb ?_
  have hlim : ∀ {x : Nat}, x ≤ 3000 → x ≤ lim := fun h => Nat.le_trans h (by decide)
  by_cases h0 : p.length = 0
  · rw [show nameOf p tag = tag from if_pos h0]
    exact (xs_stop (xv_If (tv_Bool (test_go (tv_Cmp rfl (ev_Name rfl) (ev_Name rfl) (cmp_eqT rfl)) rfl (test_go (tv_Cmp rfl (ev_Name rfl) (ev_Name rfl) (cmp_ninT hset hp)) rfl test_nil))) (xs_stop (xv_Ret (ev_Tuple (evL_cons rfl (ev_If (tv_Gen rfl (ev_Name rfl) (tr_strF h0)) (ev_Name rfl)) (evL_cons rfl (ev_Name rfl) (evL_cons rfl (ev_Name rfl) evL_nil))) (leR rfl))) rfl)) rfl)
  · rw [show nameOf p tag = Str.empty ++ p ++ colon ++ tag from if_neg h0]
    have e1 : (Str.empty ++ p).length = p.length := by rw [empty_append]
    have e2 : (Str.empty ++ p ++ colon).length = p.length + 1 := by rw [strLen_append, e1]; rfl
    exact (xs_stop (xv_If (tv_Bool (test_go (tv_Cmp rfl (ev_Name rfl) (ev_Name rfl) (cmp_eqT rfl)) rfl (test_go (tv_Cmp rfl (ev_Name rfl) (ev_Name rfl) (cmp_ninT hset hp)) rfl test_nil))) (xs_stop (xv_Ret (ev_Tuple (evL_cons rfl (ev_If (tv_Gen rfl (ev_Name rfl) (tr_strT (hlim (by lia)) h0))
      (ev_Joined (join_cons (ev_Fmt (ev_Name rfl) (hlim (by lia))) (hlim (by show 0 + p.length ≤ _; lia)) (join_cons (ev_Const rfl) (hlim (by rw [e1]; show p.length + 1 ≤ _; lia)) (join_cons (ev_Fmt (ev_Name rfl) (hlim (by lia))) (hlim (by show (Str.empty ++ p ++ colon).length + tag.length ≤ 3000; rw [e2]; lia)) join_nil))))) (evL_cons rfl (ev_Name rfl) (evL_cons rfl (ev_Name rfl) evL_nil))) (leR rfl))) rfl)) rfl)
theorem q_miss {k : Nat} {q uri tag : Str} {m : Nat} {u p : Str} {ks : List Str} (hm : okId m) (hG : G m = .set ks) (hp : ¬ (u = uri ∧ p ∉ ks)) (hk : ks.length < 1000) :
    bodyQ P sa is (k + 12) 2 (pv (u, p)) (base90 q uri tag m) (mk6 s G n) .next (base90' q uri tag m (.str u) (.str p)) (mk6 s (upd G m (.set (addL ks p))) n) := by
  have hset : (mk6 s G n).f m = .set ks := (mk6_at hm).trans hG
  have hb : bindT sc_qname (mk6 s G n) (forT (bodyAt (hd.heap_39 P) 90)[2]?) (pv (u, p)) (base90 q uri tag m) = some (base90' q uri tag m (.str u) (.str p)) := rfl
  have hat : attr (pe6 P sa is) (mk6 s G n) "add" (.ref m) = some (.bm .sAdd (.ref m)) := attr_set hset rfl
  refine fb hb ?_
  by_cases hu : u = uri
  · have hp' : p ∈ ks := by
      by_cases h : p ∈ ks
      · exact h
      · exact absurd ⟨hu, h⟩ hp
    exact (xs_cons (xv_If (tv_Bool (test_go (tv_Cmp rfl (ev_Name rfl) (ev_Name rfl) (cmp_eqT hu)) rfl (test_stop (tv_Cmp rfl (ev_Name rfl) (ev_Name rfl) (cmp_ninF hset hp')) rfl))) xs_nil) (xs_cons (xv_Expr rfl (ev_CallA rfl rfl (by decide) (ev_Name rfl) hat rfl (evL_cons rfl (ev_Name rfl) evL_nil) evKw_nil (c_bm (pv_sadd hset hk (mk6_put hm))))) xs_nil))
  · exact (xs_cons (xv_If (tv_Bool (test_stop (tv_Cmp rfl (ev_Name rfl) (ev_Name rfl) (cmp_eqF hu)) rfl)) xs_nil) (xs_cons (xv_Expr rfl (ev_CallA rfl rfl (by decide) (ev_Name rfl) hat rfl (evL_cons rfl (ev_Name rfl) evL_nil) evKw_nil (c_bm (pv_sadd hset hk (mk6_put hm))))) xs_nil))

theorem base_sub {q uri tag : Str} {m : Nat} {a b : V} : ∀ y v, (base90 q uri tag m).lookup y = some v → (base90' q uri tag m a b).lookup y = some v := lk_app (l := base90 q uri tag m) (m := [("u", a), ("prefix", b)])
/-- the first loop -/
theorem q_loop {k : Nat} {q uri tag : Str} {m w : Nat} {H0 : Hp} (hm : okId m) (hw : okId w) (hwm : w ≠ m) (ht : tag.length ≤ 1000) : ∀ {ps : List (Str × Str)} {ks : List Str} {G : Nat → AObj},
    G m = .set ks → H0.f w = G w → ks.length + ps.length < 1000 → (∀ p ∈ ps, p.2.length ≤ 1000) →
    ∃ G' loc', (∀ i, i ≠ m → G' i = G i) ∧ ((scan uri ps ks).1 = none → loc' = base90 q uri tag m) ∧ G' m = .set (scan uri ps ks).2 ∧
      loopQ P sa is (k + 12) 2 (some w) H0 (ps.map pv) (base90 q uri tag m) (mk6 s G n) (match (scan uri ps ks).1 with | some p => .ret (.tup [.str (nameOf p tag), .str tag, .str uri]) | none => .next) loc' (mk6 s G' n)
  | [], ks, G, hG, _, _, _ => ⟨G, _, fun _ _ => rfl, fun _ => rfl, hG, for_nil⟩
  | (u, p) :: ps, ks, G, hG, hs, hn, hz => by
    by_cases h : u = uri ∧ p ∉ ks
    · obtain ⟨rfl, hp⟩ := h
      rw [scan, if_pos ⟨rfl, hp⟩]
      exact ⟨G, _, fun _ _ => rfl, fun e => (nomatch e), hG, for_end (q_hit hm hG hp (hz _ List.mem_cons_self) ht)⟩
    · have hla := len_addL ks p
      rw [List.length_cons] at hn
      obtain ⟨G', loc', h1, h2, h3, h4⟩ := q_loop (k := k) (q := q) (uri := uri) hm hw hwm ht (ps := ps) (ks := addL ks p) (G := upd G m (.set (addL ks p))) (if_pos rfl) (by rw [hs]; exact (if_neg hwm).symm)
        (by lia) (fun y hy => hz y (List.mem_cons_of_mem _ hy))
      rw [scan, if_neg h]
      refine ⟨G', loc', fun i hi => (h1 i hi).trans (if_neg hi), h2, h3, for_go (q_miss hm hG h (by lia)) rfl (for_forget base_sub h4) ?_⟩
      show (mk6 s (upd G m (.set (addL ks p))) n).f w = H0.f w
      rw [mk6_at hw, hs]; exact if_neg hwm
end Mine
end
section
open PySem PySem.W PyProof.Rows PySem.SeqAt Mine.Ev Mine.Prm Mine.PrF
set_option maxRecDepth 100000
namespace Mine

theorem idx_last {xs : List V} {v : V} (h : xs.getLast? = some v) : atIdx xs (-1) = some v := by
  unfold atIdx
  rw [if_neg (by decide), if_neg (by decide)]
  have hne : xs ≠ [] := fun e => by rw [e] at h; simp at h
  have hp : 0 < xs.length := List.length_pos_iff.mpr hne
  rw [if_pos (by lia), List.getLast?_eq_getElem?] at *
  rw [← h]
  congr 1
  lia
noncomputable def findU (uri : Str) : List (Str × Str) → Option Str
  | [] => none
  | (u, p) :: r => if u = uri then some p else findU uri r

variable {s : S6} {G : Nat → AObj} {n : Nat} {P : Params} {sa : Addr} {is : List Int}

theorem q2_hit {k : Nat} {q uri tag : Str} {m d : Nat} {p : Str} {xs : List V} (hdd : okId d) (hlast : s.decl.getLast? = some (.ref d)) (hG : G d = .list xs) (hx : xs.length < lim) (hl : p.length ≤ 1000) (ht : tag.length ≤ 1000) :
    bodyQ P sa is (k + 12) 5 (pv (uri, p)) (base90 q uri tag m) (mk6 s G n) (.ret (.tup [.str (nameOf p tag), .str tag, .str uri])) (base90' q uri tag m (.str uri) (.str p)) (mk6 s (upd G d (.list (xs ++ [pv (uri, p)]))) n) := by
  have hb : bindT sc_qname (mk6 s G n) (forT (bodyAt (hd.heap_39 P) 90)[5]?) (pv (uri, p)) (base90 q uri tag m) = some (base90' q uri tag m (.str uri) (.str p)) := rfl
  have hdl : (mk6 s G n).f d = .list xs := (mk6_at hdd).trans hG
  have hat : attr (pe6 P sa is) (mk6 s G n) "append" (.ref d) = some (.bm .lAppend (.ref d)) := attr_list hdl rfl
  have hix : index (mk6 s G n) (.ref 7) (.int (-1)) = some (.ref d) := idx_last hlast
  refine fb hb ?_
  have hlim : ∀ {x : Nat}, x ≤ 3000 → x ≤ lim := fun h => Nat.le_trans h (by decide)
  by_cases h0 : p.length = 0
  · rw [show nameOf p tag = tag from if_pos h0]
    exact (xs_stop (xv_If (tv_Cmp rfl (ev_Name rfl) (ev_Name rfl) (cmp_eqT rfl)) (xs_cons (xv_Expr rfl (ev_CallA rfl rfl (by decide) (ev_Idx rfl (ev_Attr rfl (ev_Name rfl) rfl rfl) (ev_Neg (ev_Const rfl)) hix) hat rfl (evL_cons rfl (ev_Tuple (evL_cons rfl (ev_Name rfl) (evL_cons rfl (ev_Name rfl) evL_nil)) (leR rfl)) evL_nil) evKw_nil (c_bm (pv_append hdl hx (mk6_put hdd))))) (xs_stop (xv_Ret (ev_Tuple (evL_cons rfl (ev_If (tv_Gen rfl (ev_Name rfl) (tr_strF h0)) (ev_Name rfl)) (evL_cons rfl (ev_Name rfl) (evL_cons rfl (ev_Name rfl) evL_nil))) (leR rfl))) rfl))) rfl)
  · rw [show nameOf p tag = Str.empty ++ p ++ colon ++ tag from if_neg h0]
    have e1 : (Str.empty ++ p).length = p.length := by rw [empty_append]
    have e2 : (Str.empty ++ p ++ colon).length = p.length + 1 := by rw [strLen_append, e1]; rfl
    exact (xs_stop (xv_If (tv_Cmp rfl (ev_Name rfl) (ev_Name rfl) (cmp_eqT rfl)) (xs_cons (xv_Expr rfl (ev_CallA rfl rfl (by decide) (ev_Idx rfl (ev_Attr rfl (ev_Name rfl) rfl rfl) (ev_Neg (ev_Const rfl)) hix) hat rfl (evL_cons rfl (ev_Tuple (evL_cons rfl (ev_Name rfl) (evL_cons rfl (ev_Name rfl) evL_nil)) (leR rfl)) evL_nil) evKw_nil (c_bm (pv_append hdl hx (mk6_put hdd))))) (xs_stop (xv_Ret (ev_Tuple (evL_cons rfl (ev_If (tv_Gen rfl (ev_Name rfl) (tr_strT (hlim (by lia)) h0))
      (ev_Joined (join_cons (ev_Fmt (ev_Name rfl) (hlim (by lia))) (hlim (by show 0 + p.length ≤ _; lia)) (join_cons (ev_Const rfl) (hlim (by rw [e1]; show p.length + 1 ≤ _; lia)) (join_cons (ev_Fmt (ev_Name rfl) (hlim (by lia))) (hlim (by show (Str.empty ++ p ++ colon).length + tag.length ≤ 3000; rw [e2]; lia)) join_nil))))) (evL_cons rfl (ev_Name rfl) (evL_cons rfl (ev_Name rfl) evL_nil))) (leR rfl))) rfl))) rfl)
theorem q2_miss {k : Nat} {q uri tag : Str} {m : Nat} {u p : Str} (hu : u ≠ uri) :
    bodyQ P sa is (k + 12) 5 (pv (u, p)) (base90 q uri tag m) (mk6 s G n) .next (base90' q uri tag m (.str u) (.str p)) (mk6 s G n) := by
  have hb : bindT sc_qname (mk6 s G n) (forT (bodyAt (hd.heap_39 P) 90)[5]?) (pv (u, p)) (base90 q uri tag m) = some (base90' q uri tag m (.str u) (.str p)) := rfl
  refine fb hb ?_
  exact xs_cons (xv_If (tv_Cmp rfl (ev_Name rfl) (ev_Name rfl) (cmp_eqF hu)) xs_nil) xs_nil

theorem q2_loop {k : Nat} {q uri tag : Str} {m w d : Nat} {H0 : Hp} {xs : List V} {p0 : Str} (hdd : okId d) (hlast : s.decl.getLast? = some (.ref d)) (hG : G d = .list xs) (hx : xs.length < lim) (hw : okId w) (ht : tag.length ≤ 1000) (hs : H0.f w = G w) : ∀ {ps : List (Str × Str)},
    (∀ p ∈ ps, p.2.length ≤ 1000) → findU uri ps = some p0 →
    ∃ loc', loopQ P sa is (k + 12) 5 (some w) H0 (ps.map pv) (base90 q uri tag m) (mk6 s G n) (.ret (.tup [.str (nameOf p0 tag), .str tag, .str uri])) loc' (mk6 s (upd G d (.list (xs ++ [pv (uri, p0)]))) n)
  | [], _, h => nomatch h
  | (u, p) :: ps, hz, h => by
    unfold findU at h
    by_cases hu : u = uri
    · rw [if_pos hu] at h
      subst hu; cases h
      exact ⟨_, for_end (q2_hit hdd hlast hG hx (hz _ List.mem_cons_self) ht)⟩
    · rw [if_neg hu] at h
      obtain ⟨loc', h4⟩ := q2_loop (k := k) (q := q) (m := m) hdd hlast hG hx hw ht hs (ps := ps) (fun y hy => hz y (List.mem_cons_of_mem _ hy)) h
      exact ⟨loc', for_go (q2_miss hu) rfl (for_forget base_sub h4) ((mk6_at hw).trans hs.symm)⟩

noncomputable def bra : Str := "{"
noncomputable def ket : Str := "}"
/-- how a name is taken apart -/
noncomputable def Parse (q uri tag : Str) : Prop := (Txt.slice q none (some 1) = bra ∧ Txt.rsplitMax (Txt.slice q (some 1) none) ket 1 = [uri, tag]) ∨ (Txt.slice q none (some 1) ≠ bra ∧ uri = Str.empty ∧ tag = q)
theorem sl_str {H : Hp} {pe : Pe} {q : Str} {lo hi : Option Int} (hl : q.length ≤ lim) : Slc pe H (.str q) lo hi none (.str (Txt.slice q lo hi)) H := .str hl
abbrev loc90 (q : Str) : Loc := [("self", .ref 4), ("qname", .str q), ("uri", .none)]
abbrev loc91 (q uri tag : Str) : Loc := [("self", .ref 4), ("qname", .str q), ("uri", .str uri), ("tag", .str tag)]

/-- G' is G below n -/
noncomputable def Same (n : Nat) (G G' : Nat → AObj) : Prop := ∀ i, i < n → G' i = G i

theorem q_parse {k : Nat} {q uri tag : Str} (hn : 13 ≤ n) (hq : q.length ≤ 1000) (h : Parse q uri tag) :
    ∃ G' n', n ≤ n' ∧ n' ≤ n + 1 ∧ Same n G G' ∧ ∀ fl lc h, Ev (pe6 P sa is) (k + 12) (.xs sc_qname ((bodyAt (hd.heap_39 P) 90).drop 1) (loc91 q uri tag) (mk6 s G' n')) (.f fl lc h) → Ev (pe6 P sa is) (k + 12) (.xs sc_qname (bodyAt (hd.heap_39 P) 90) (loc90 q) (mk6 s G n)) (.f fl lc h) := by
  have hlim : ∀ {x : Nat}, x ≤ 3000 → x ≤ lim := fun h => Nat.le_trans h (by decide)
  have hs1 : (Txt.slice q (some 1) none).length ≤ 1000 := Nat.le_trans (Txt.slice_le _ _ _) hq
  rcases h with ⟨h1, h2⟩ | ⟨h1, rfl, rfl⟩
  · refine ⟨upd G n (.list [.str uri, .str tag]), n + 1, Nat.le_succ _, Nat.le_refl _, fun i hi => if_neg (Nat.ne_of_lt hi), fun fl lc h hz => ?_⟩
    have hun : unp (mk6 s (upd G n (.list [.str uri, .str tag])) (n + 1)) (.ref n) = some [.str uri, .str tag] := by
      exact unp_ref ((mk6_at (.inr (.inr (.inr hn)))).trans (if_pos rfl))
    have hal : (mk6 s G n).alloc (.list ((Txt.rsplitMax (Txt.slice q (some 1) none) ket 1).map .str)) = mk6 s (upd G n (.list [.str uri, .str tag])) (n + 1) := by
      rw [h2]; exact mk6_alloc hn
    exact xs_cons (xv_If (tv_Cmp rfl (ev_Name rfl) (ev_Const rfl) (cmpR rfl)) (xs_cons (xv_Asg rfl (fun _ => rfl) (ev_If (tv_Cmp rfl (ev_Slice (ev_Name rfl) opt_none (opt_some (ev_Const rfl)) opt_none (sl_str (hlim (by lia)))) (ev_Const rfl) (cmp_eqT h1))
      (ev_CallA rfl rfl (by decide) (ev_Slice (ev_Name rfl) (opt_some (ev_Const rfl)) opt_none opt_none (sl_str (hlim (by lia)))) rfl rfl (evL_cons rfl (ev_Const rfl) (evL_cons rfl (ev_Const rfl) evL_nil)) evKw_nil (c_bm (pv_rsplit ⟨by decide, hlim (by lia), by decide, by decide⟩ hal)))) (asgs_one rfl (asg_Tup hun rfl))) xs_nil)) hz
  · refine ⟨G, n, Nat.le_refl _, Nat.le_succ _, fun i hi => rfl, fun fl lc h hz => ?_⟩
    exact xs_cons (xv_If (tv_Cmp rfl (ev_Name rfl) (ev_Const rfl) (cmpR rfl)) (xs_cons (xv_Asg rfl (fun _ => rfl) (ev_If (tv_Cmp rfl (ev_Slice (ev_Name rfl) opt_none (opt_some (ev_Const rfl)) opt_none (sl_str (hlim (by lia)))) (ev_Const rfl) (cmp_eqF h1))
      (ev_Tuple (evL_cons rfl (ev_Const rfl) (evL_cons rfl (ev_Name rfl) evL_nil)) (leR rfl))) (asgs_one rfl (asg_Tup rfl rfl))) xs_nil)) hz
end Mine
end
section
open PySem PySem.W PyProof.Rows PySem.SeqAt Mine.Ev Mine.Prm Mine.PrF
set_option maxRecDepth 100000
set_option maxHeartbeats 1000000
namespace Mine
section
variable {pe : Pe} {sc : Sc} {loc : Loc} {v : V}
theorem lk_glob {x : Str} (h1 : sc.lookup x = some .globalImplicit) (h2 : (x == ("__debug__" : Str) || x == ("__classdict__" : Str)) = false) (h : pe.glob x = some v) : look pe sc loc x = some v := by
  unfold look
  rw [if_neg (by rintro (q | q) <;> rw [q] at h2 <;> simp at h2), h1]
  exact h
theorem ca_fn {a : Addr} {fd : FuncData} (h : pe.fn a = some fd) : callable pe (.fn a) = true := by simp [callable, h]
theorem ca_mt {a : Addr} {x : V} {fd : FuncData} (h : pe.fn a = some fd) : callable pe (.mt a x) = true := by simp [callable, h]
end
variable {s : S6} {G : Nat → AObj} {n : Nat} {P : Params} {sa : Addr} {is : List Int}
theorem glob_set : (pe6 P sa is).glob "set" = some (.bf .set) := by kernel_rfl

/-- a stack of levels -/
structure Stk (G : Nat → AObj) (n : Nat) (vs : List V) (ids : List Nat) (lv : Nat → List (Str × Str)) : Prop where
  eq : vs = ids.map .ref
  ok : ∀ j ∈ ids, okId j ∧ j < n ∧ G j = .list ((lv j).map pv)
theorem Stk.mono {G G' : Nat → AObj} {n n' : Nat} {vs : List V} {ids : List Nat} {lv : Nat → List (Str × Str)} (S : Stk G n vs ids lv) (hn : n ≤ n') (hG : ∀ i, i < n → G' i = G i) : Stk G' n' vs ids lv :=
  ⟨S.eq, fun j hj => let ⟨a, b, c⟩ := S.ok j hj; ⟨a, Nat.lt_of_lt_of_le b hn, (hG j b).trans c⟩⟩
noncomputable def walkL (ids : List Nat) (lv : Nat → List (Str × Str)) : List (Str × Str) := ids.reverse.flatMap lv
theorem walkL_map (ids : List Nat) (lv : Nat → List (Str × Str)) : ids.reverse.flatMap (fun j => (lv j).map pv) = (walkL ids lv).map pv := by
  unfold walkL; rw [List.map_flatMap]

/-- the helper called on one of the two stacks -/
theorem t_iter {k i : Nat} {vs : List V} {ids : List Nat} {lv : Nat → List (Str × Str)} (hn : 13 ≤ n) (h1 : (mk6 s G n).f i = .list vs) (S : Stk G n vs ids lv) (hl : ids.length ≤ 1000) (hl2 : (walkL ids lv).length ≤ 1000) :
    ∃ G', (∀ j, j < n → G' j = G j) ∧ G' (n + 1) = .list ((walkL ids lv).map pv) ∧ Ev (pe6 P sa is) (k + 12) (.c (.fn 173) [.ref i] [] (mk6 s G n)) (.v (.ref (n + 1)) (mk6 s G' (n + 2))) := by
  have hw := t_walk (P := P) (sa := sa) (is := is) (k := k) (H := mk6 s G n) (i := i) (ids := ids) (lv := fun j => (lv j).map pv) (h1.trans (by rw [S.eq])) (fun j hj => (mk6_at (S.ok j hj).1).trans (S.ok j hj).2.2) (fun j hj => (S.ok j hj).2.1) hl (by
    rw [walkL_map, List.length_map]; exact Nat.le_trans hl2 (by decide))
  rw [walkL_map] at hw
  rw [mk6_alloc hn, mk6_alloc (by lia)] at hw
  refine ⟨_, fun j hj => ?_, ?_, hw⟩
  · show (if j = n + 1 then _ else if j = n then _ else G j) = G j
    rw [if_neg (by lia), if_neg (by lia)]
  · show (if n + 1 = n + 1 then _ else _) = _
    rw [if_pos rfl]

noncomputable def qres (DL NL : List (Str × Str)) (uri tag : Str) : Option (Str × Option (Str × Str)) := match (scan uri DL []).1 with
  | some p => some (nameOf p tag, none)
  | none => if uri.length = 0 ∧ Str.empty ∉ (scan uri DL []).2 then some (tag, none) else (findU uri NL).map fun p => (nameOf p tag, some (uri, p))

theorem t_qname {k : Nat} {q uri tag nm : Str} {dc : Option (Str × Str)} {dids nids : List Nat} {dl nl : Nat → List (Str × Str)} {d : Nat} (hn : 13 ≤ n) (hq : q.length ≤ 1000) (hp : Parse q uri tag) (hu : uri.length ≤ 1000) (ht : tag.length ≤ 1000) (SD : Stk G n s.decl dids dl) (SN : Stk G n s.ns nids nl) (hd0 : dids.getLast? = some d) (hdn : d ∉ nids)
    (hz1 : dids.length ≤ 900 ∧ (walkL dids dl).length ≤ 900 ∧ ∀ p ∈ walkL dids dl, p.2.length ≤ 1000) (hz2 : nids.length ≤ 900 ∧ (walkL nids nl).length ≤ 900 ∧ ∀ p ∈ walkL nids nl, p.2.length ≤ 1000) (hr : qres (walkL dids dl) (walkL nids nl) uri tag = some (nm, dc)) :
    ∃ G' n', n ≤ n' ∧ n' ≤ n + 8 ∧ (∀ i, i < n → i ≠ d → G' i = G i) ∧ G' d = .list ((dl d ++ dc.toList).map pv) ∧ Ev (pe6 P sa is) (k + 30) (.c (.mt 90 (.ref 4)) [.str q] [] (mk6 s G n)) (.v (.tup [.str nm, .str tag, .str uri]) (mk6 s G' n')) := by
  have hdm : d ∈ dids := List.mem_of_getLast? hd0
  obtain ⟨hdk, hdlt, hdG⟩ := SD.ok d hdm
  have hlast : s.decl.getLast? = some (.ref d) := by rw [SD.eq, List.getLast?_map, hd0]; rfl
  obtain ⟨G1, n1, hn1, hn1', hs1, hrun⟩ := q_parse (P := P) (sa := sa) (is := is) (s := s) (G := G) (k := k + 17) hn hq hp
  -- the set
  have hm : okId n1 := .inr (.inr (.inr (by lia)))
  have S2 : Stk (upd G1 n1 (.set [])) (n1 + 1) s.decl dids dl := SD.mono (by lia) fun i hi => (if_neg (by lia)).trans (hs1 i hi)
  obtain ⟨G3, h3a, h3b, h3c⟩ := t_iter (P := P) (sa := sa) (is := is) (k := k + 15) (i := 7) (n := n1 + 1) (by lia) rfl S2 (by lia) (by lia)
  have hG3m : G3 n1 = .set [] := (h3a n1 (by lia)).trans (if_pos rfl)
  have hw : okId (n1 + 2) := .inr (.inr (.inr (by lia)))
  obtain ⟨G4, loc4, h4a, h4b, h4c, h4d⟩ := q_loop (P := P) (sa := sa) (is := is) (s := s) (n := n1 + 3) (k := k + 16) (q := q) (uri := uri) (H0 := mk6 s G3 (n1 + 3)) hm hw (by lia) ht (ps := walkL dids dl) (ks := []) (G := G3) hG3m (mk6_at hw) (by simp only [List.length_nil]; lia) hz1.2.2
  have hit1 : items (mk6 s G3 (n1 + 3)) (.ref (n1 + 2)) = some ((walkL dids dl).map pv, some (n1 + 2)) := by
    have : (mk6 s G3 (n1 + 3)).f (n1 + 2) = .list ((walkL dids dl).map pv) := (mk6_at hw).trans h3b
    exact items_ref this
  have hal : (mk6 s G1 n1).alloc (.set []) = mk6 s (upd G1 n1 (.set [])) (n1 + 1) := mk6_alloc (by lia)
  have hG4 : ∀ i, i < n → G4 i = G i := fun i hi => (h4a i (by lia)).trans ((h3a i (by lia)).trans ((if_neg (by lia)).trans (hs1 i hi)))
  unfold qres at hr
  cases hsc : (scan uri (walkL dids dl) []).1 with
  | some p =>
    rw [hsc] at hr h4d
    simp only [Option.some.injEq, Prod.mk.injEq] at hr
    obtain ⟨rfl, rfl⟩ := hr
    refine ⟨G4, n1 + 3, by lia, by lia, fun i hi _ => hG4 i hi, ?_, ?_⟩
    · rw [hG4 d hdlt, hdG]; simp
    · exact c_mt (run_fn (fn_qname P sa is) .qname body_qname nm_qname (hrun _ _ _ (xs_cons (xv_Asg rfl (fun _ => rfl) (ev_CallN (lk_glob rfl rfl glob_set) rfl evL_nil evKw_nil (c_bf (fv_set hal))) (asgs_one rfl (asg_Name rfl))) (xs_stop (xv_For rfl (ev_CallA rfl rfl (by decide) (ev_Name rfl) rfl (ca_fn (fn_walk P sa is)) (evL_cons rfl (ev_Attr rfl (ev_Name rfl) rfl rfl) evL_nil) evKw_nil h3c) hit1 h4d) rfl))) rfl)
  | none =>
    rw [hsc] at hr h4d
    dsimp only at hr h4d
    have hset4 : (mk6 s G4 (n1 + 3)).f n1 = .set (scan uri (walkL dids dl) []).2 := (mk6_at hm).trans h4c
    split at hr
    · rename_i hc
      simp only [Option.some.injEq, Prod.mk.injEq] at hr
      obtain ⟨rfl, rfl⟩ := hr
      refine ⟨G4, n1 + 3, by lia, by lia, fun i hi _ => hG4 i hi, ?_, ?_⟩
      · rw [hG4 d hdlt, hdG]; simp
      · cases h4b hsc
        exact c_mt (run_fn (fn_qname P sa is) .qname body_qname nm_qname (hrun _ _ _ (xs_cons (xv_Asg rfl (fun _ => rfl) (ev_CallN (lk_glob rfl rfl glob_set) rfl evL_nil evKw_nil (c_bf (fv_set hal))) (asgs_one rfl (asg_Name rfl))) (xs_cons (xv_For rfl (ev_CallA rfl rfl (by decide) (ev_Name rfl) rfl (ca_fn (fn_walk P sa is)) (evL_cons rfl (ev_Attr rfl (ev_Name rfl) rfl rfl) evL_nil) evKw_nil h3c) hit1 h4d) (xs_cons (xv_If (tv_Gen rfl (ev_Attr rfl (ev_Name rfl) rfl rfl) rfl) xs_nil) (xs_stop (xv_If (tv_Bool (test_go (tv_Not (tv_Gen rfl (ev_Name rfl) (tr_strF hc.1))) rfl (test_go (tv_Cmp rfl (ev_Const rfl) (ev_Name rfl) (cmp_ninT hset4 hc.2)) rfl test_nil))) (xs_stop (xv_Ret (ev_Tuple (evL_cons rfl (ev_Name rfl) (evL_cons rfl (ev_Name rfl) (evL_cons rfl (ev_Name rfl) evL_nil))) (leR rfl))) rfl)) rfl))))) rfl)
    · rename_i hc
      simp only [Option.map_eq_some_iff, Prod.mk.injEq] at hr
      obtain ⟨p, hf, rfl, rfl⟩ := hr
      have S5 : Stk G4 (n1 + 3) s.ns nids nl := SN.mono (by lia) hG4
      obtain ⟨G5, h5a, h5b, h5c⟩ := t_iter (P := P) (sa := sa) (is := is) (k := k + 15) (i := 8) (n := n1 + 3) (by lia) rfl S5 (by lia) (by lia)
      have hw2 : okId (n1 + 4) := .inr (.inr (.inr (by lia)))
      have hit2 : items (mk6 s G5 (n1 + 5)) (.ref (n1 + 4)) = some ((walkL nids nl).map pv, some (n1 + 4)) := by
        have : (mk6 s G5 (n1 + 5)).f (n1 + 4) = .list ((walkL nids nl).map pv) := (mk6_at hw2).trans h5b
        exact items_ref this
      have hG5 : ∀ i, i < n → G5 i = G i := fun i hi => (h5a i (by lia)).trans (hG4 i hi)
      have hdl5 : (dl d).length ≤ 900 := by
        have h1 : (dl d).length ≤ (walkL dids dl).length := by
          unfold walkL
          obtain ⟨a, b, e⟩ := List.append_of_mem (List.mem_reverse.mpr hdm)
          rw [e, List.flatMap_append, List.flatMap_cons]
          simp only [List.length_append]; lia
        lia
      obtain ⟨loc6, h6⟩ := q2_loop (P := P) (sa := sa) (is := is) (s := s) (n := n1 + 5) (k := k + 16) (q := q) (uri := uri) (m := n1) (w := n1 + 4) (d := d) (H0 := mk6 s G5 (n1 + 5)) (G := G5) hdk hlast ((hG5 d hdlt).trans hdG) (by rw [List.length_map]; exact Nat.lt_of_le_of_lt hdl5 (by decide)) hw2 ht (mk6_at hw2) (ps := walkL nids nl) hz2.2.2 hf
      refine ⟨upd G5 d (.list ((dl d).map pv ++ [pv (uri, p)])), n1 + 5, by lia, by lia, fun i hi hid => (if_neg hid).trans (hG5 i hi), ?_, ?_⟩
      · show (if d = d then _ else _) = _
        rw [if_pos rfl]; simp
      · have hu0 : uri.length ≤ lim := Nat.le_trans hu (by decide)
        by_cases h0 : uri.length = 0
        · have hin : Str.empty ∈ (scan uri (walkL dids dl) []).2 := by
            by_cases h : Str.empty ∈ (scan uri (walkL dids dl) []).2
            · exact h
            · exact absurd ⟨h0, h⟩ hc
          cases h4b hsc
          exact c_mt (run_fn (fn_qname P sa is) .qname body_qname nm_qname (hrun _ _ _ (xs_cons (xv_Asg rfl (fun _ => rfl) (ev_CallN (lk_glob rfl rfl glob_set) rfl evL_nil evKw_nil (c_bf (fv_set hal))) (asgs_one rfl (asg_Name rfl))) (xs_cons (xv_For rfl (ev_CallA rfl rfl (by decide) (ev_Name rfl) rfl (ca_fn (fn_walk P sa is)) (evL_cons rfl (ev_Attr rfl (ev_Name rfl) rfl rfl) evL_nil) evKw_nil h3c) hit1 h4d) (xs_cons (xv_If (tv_Gen rfl (ev_Attr rfl (ev_Name rfl) rfl rfl) rfl) xs_nil) (xs_cons (xv_If (tv_Bool (test_go (tv_Not (tv_Gen rfl (ev_Name rfl) (tr_strF h0))) rfl (test_stop (tv_Cmp rfl (ev_Const rfl) (ev_Name rfl) (cmp_ninF hset4 hin)) rfl))) xs_nil) (xs_stop (xv_For rfl (ev_CallA rfl rfl (by decide) (ev_Name rfl) rfl (ca_fn (fn_walk P sa is)) (evL_cons rfl (ev_Attr rfl (ev_Name rfl) rfl rfl) evL_nil) evKw_nil h5c) hit2 h6) rfl)))))) rfl)
        · cases h4b hsc
          exact c_mt (run_fn (fn_qname P sa is) .qname body_qname nm_qname (hrun _ _ _ (xs_cons (xv_Asg rfl (fun _ => rfl) (ev_CallN (lk_glob rfl rfl glob_set) rfl evL_nil evKw_nil (c_bf (fv_set hal))) (asgs_one rfl (asg_Name rfl))) (xs_cons (xv_For rfl (ev_CallA rfl rfl (by decide) (ev_Name rfl) rfl (ca_fn (fn_walk P sa is)) (evL_cons rfl (ev_Attr rfl (ev_Name rfl) rfl rfl) evL_nil) evKw_nil h3c) hit1 h4d) (xs_cons (xv_If (tv_Gen rfl (ev_Attr rfl (ev_Name rfl) rfl rfl) rfl) xs_nil) (xs_cons (xv_If (tv_Bool (test_stop (tv_Not (tv_Gen rfl (ev_Name rfl) (tr_strT hu0 h0))) rfl)) xs_nil) (xs_stop (xv_For rfl (ev_CallA rfl rfl (by decide) (ev_Name rfl) rfl (ca_fn (fn_walk P sa is)) (evL_cons rfl (ev_Attr rfl (ev_Name rfl) rfl rfl) evL_nil) evKw_nil h5c) hit2 h6) rfl)))))) rfl)
end Mine
end
section
open PySem PySem.W PyProof.Rows PySem.SeqAt Mine.Ev Mine.Prm Mine.PrF
set_option maxRecDepth 100000
set_option maxHeartbeats 1000000
namespace Mine

noncomputable def cleanS (x : Str) : Prop := ∀ c ∈ x.cps.toList, c ≠ 38 ∧ c ≠ 60 ∧ c ≠ 62 ∧ c ≠ 34 ∧ c ≠ 9 ∧ c ≠ 10 ∧ c ≠ 13
theorem in_one {H : Hp} {x y : Str} {c : Nat} (hy : y = ⟨#[c]⟩) (h : c ∉ x.cps.toList) : Cmp H .In (.str y) (.str x) false := by
  subst hy
  have q : Txt.contains x ⟨#[c]⟩ = false := by
    unfold Txt.contains
    rw [StrLaws.found_one]
    simp [h]
  exact q ▸ .inn .str

variable {s : S6} {G : Nat → AObj} {n : Nat} {P : Params} {sa : Addr} {is : List Int}
noncomputable def sc_esc : Sc := [("text", .local), ("TypeError", .globalImplicit), ("AttributeError", .globalImplicit), ("_raise_serialization_error", .globalImplicit)]
theorem nm_ecd : (fdAt (hd.heap_39 P) 161).scope.names = sc_esc := by kernel_rfl
theorem body_ecd : (fdAt (hd.heap_39 P) 161).body = .stmts (bodyAt (hd.heap_39 P) 161) := by kernel_rfl
theorem nm_eat : (fdAt (hd.heap_39 P) 168).scope.names = sc_esc := by kernel_rfl
theorem body_eat : (fdAt (hd.heap_39 P) 168).body = .stmts (bodyAt (hd.heap_39 P) 168) := by kernel_rfl

theorem t_ecd {k : Nat} {H : Hp} {x : Str} (h : cleanS x) : Ev (pe6 P sa is) (k + 12) (.c (.fn 161) [.str x] [] H) (.v (.str x) H) := by
  have h1 := in_one (H := H) (x := x) (y := "&") rfl fun q => (h 38 q).1 rfl
  have h2 := in_one (H := H) (x := x) (y := "<") rfl fun q => (h 60 q).2.1 rfl
  have h3 := in_one (H := H) (x := x) (y := ">") rfl fun q => (h 62 q).2.2.1 rfl
  have h4 := in_one (H := H) (x := x) (y := "\r") rfl fun q => (h 13 q).2.2.2.2.2.2 rfl
  exact c_fn (init_none (by decide)) (run_fn (fn_ecd P sa is) .ecd body_ecd nm_ecd (xs_stop (xv_Try (xs_cons (xv_If (tv_Cmp rfl (ev_Const rfl) (ev_Name rfl) h1) xs_nil) (xs_cons (xv_If (tv_Cmp rfl (ev_Const rfl) (ev_Name rfl) h2) xs_nil) (xs_cons (xv_If (tv_Cmp rfl (ev_Const rfl) (ev_Name rfl) h3) xs_nil) (xs_cons (xv_If (tv_Cmp rfl (ev_Const rfl) (ev_Name rfl) h4) xs_nil) (xs_stop (xv_Ret (ev_Name rfl)) rfl)))))) rfl) rfl)
theorem t_eat {k : Nat} {H : Hp} {x : Str} (h : cleanS x) : Ev (pe6 P sa is) (k + 12) (.c (.fn 168) [.str x] [] H) (.v (.str x) H) := by
  have h1 := in_one (H := H) (x := x) (y := "&") rfl fun q => (h 38 q).1 rfl
  have h2 := in_one (H := H) (x := x) (y := "<") rfl fun q => (h 60 q).2.1 rfl
  have h3 := in_one (H := H) (x := x) (y := "\"") rfl fun q => (h 34 q).2.2.2.1 rfl
  have h4 := in_one (H := H) (x := x) (y := "\t") rfl fun q => (h 9 q).2.2.2.2.1 rfl
  have h5 := in_one (H := H) (x := x) (y := "\n") rfl fun q => (h 10 q).2.2.2.2.2.1 rfl
  have h6 := in_one (H := H) (x := x) (y := "\r") rfl fun q => (h 13 q).2.2.2.2.2.2 rfl
  exact c_fn (init_none (by decide)) (run_fn (fn_eat P sa is) .eat body_eat nm_eat (xs_stop (xv_Try (xs_cons (xv_If (tv_Cmp rfl (ev_Const rfl) (ev_Name rfl) h1) xs_nil) (xs_cons (xv_If (tv_Cmp rfl (ev_Const rfl) (ev_Name rfl) h2) xs_nil) (xs_cons (xv_If (tv_Cmp rfl (ev_Const rfl) (ev_Name rfl) h3) xs_nil) (xs_cons (xv_If (tv_Cmp rfl (ev_Const rfl) (ev_Name rfl) h4) xs_nil) (xs_cons (xv_If (tv_Cmp rfl (ev_Const rfl) (ev_Name rfl) h5) xs_nil) (xs_cons (xv_If (tv_Cmp rfl (ev_Const rfl) (ev_Name rfl) h6) xs_nil) (xs_stop (xv_Ret (ev_Name rfl)) rfl)))))))) rfl) rfl)

noncomputable def sc_flush : Sc := [("self", .local), ("_join_text", .local), ("data", .local), ("args", .local), ("qname_text", .local), ("_looks_like_prefix_name", .globalImplicit), ("_escape_cdata_c14n", .globalImplicit)]
theorem nm_flush : (fdAt (hd.heap_39 P) 106).scope.names = sc_flush := by kernel_rfl
theorem body_flush : (fdAt (hd.heap_39 P) 106).body = .stmts (bodyAt (hd.heap_39 P) 106) := by kernel_rfl
theorem glob_ecd : (pe6 P sa is).glob "_escape_cdata_c14n" = some (.fn 161) := by kernel_rfl

noncomputable def strsV (l : List Str) : List V := l.map .str
theorem strsOf_map : ∀ (l : List Str), strsOf (l.map .str) = some l
  | [] => rfl
  | a :: l => congrArg (Option.map (a :: ·)) (strsOf_map l)

theorem t_flush {k : Nat} {l : List Str} {x : Str} (hs : s.dat = l.map .str) (hx : Txt.join Str.empty l = x) (hok : JoinOk Str.empty l = true) (hl : l.length ≤ lim) (hseen : s.seen = true) (h0 : x.length ≠ 0) (hxl : x.length ≤ lim) (hc : cleanS x) (ho : s.out.length < lim) :
    Ev (pe6 P sa is) (k + 30) (.c (.mt 106 (.ref 4)) [] [] (mk6 s G n)) (.v .none (mk6 { s with dat := [], out := s.out ++ [.str x] } G n)) := by
  have hj : Prm (mk6 s G n) .tJoin (.str "") [.ref 5] (.str x) (mk6 s G n) := by
    rw [← hx]
    exact pv_join (xs := s.dat) rfl (by rw [hs]; exact strsOf_map l) hok
  have hsn : fld (pe6 P sa is) (mk6 { s with dat := [] } G n) "_root_seen" (.ref 4) = some (.bool true) := by
    show some (V.bool s.seen) = _; rw [hseen]
  exact c_mt (run_fn (fn_flush P sa is) .flush body_flush nm_flush (xs_cons (xv_Asg rfl (fun _ => rfl) (ev_CallN rfl rfl (evL_cons rfl (ev_Attr rfl (ev_Name rfl) rfl rfl) evL_nil) evKw_nil (c_bm hj)) (asgs_one rfl (asg_Name rfl))) (xs_cons (xv_Del (ev_Attr rfl (ev_Name rfl) rfl rfl) rfl (by rw [hs, List.length_map]; exact hl) put5) (xs_cons (xv_If (tv_Bool (test_stop (tv_Gen rfl (ev_Attr rfl (ev_Name rfl) rfl rfl) rfl) rfl)) xs_nil) (xs_cons (xv_If (tv_Cmp rfl (ev_Attr rfl (ev_Name rfl) rfl rfl) (ev_Const rfl) (cmpR rfl)) xs_nil) (xs_cons (xv_If (tv_Bool (test_go (tv_Gen rfl (ev_Name rfl) (tr_strT hxl h0)) rfl (test_go (tv_Gen rfl (ev_Attr rfl (ev_Name rfl) hsn rfl) rfl) rfl test_nil)))
      (xs_cons (xv_Expr rfl (ev_CallA rfl rfl (by decide) (ev_Name rfl) rfl rfl (evL_cons rfl (ev_CallN (lk_glob rfl rfl glob_ecd) (ca_fn (fn_ecd P sa is)) (evL_cons rfl (ev_Name rfl) evL_nil) evKw_nil (t_ecd hc)) evL_nil) evKw_nil (c_bm (pv_append rfl ho put1)))) xs_nil)) xs_nil))))) rfl)
end Mine
end
section
open PySem PySem.W PyProof.Rows PySem.SeqAt Mine.Ev Mine.Prm Mine.PrF
set_option maxRecDepth 100000
set_option maxHeartbeats 400000
namespace Mine
variable {s : S6} {G : Nat → AObj} {n : Nat} {P : Params} {sa : Addr} {is : List Int}
theorem at_flush : fld (pe6 P sa is) (mk6 s G n) "_flush" (.ref 4) = some (.mt 106 (.ref 4)) := by kernel_rfl
theorem at_qname : fld (pe6 P sa is) (mk6 s G n) "_qname" (.ref 4) = some (.mt 90 (.ref 4)) := by kernel_rfl
theorem at_start : fld (pe6 P sa is) (mk6 s G n) "_start" (.ref 4) = some (.mt 126 (.ref 4)) := by kernel_rfl

/-- the texts told and not yet written -/
structure DatOk (s : S6) (l : List Str) : Prop where
  hs : s.dat = l.map .str
  hl : l.length ≤ 1000
  ho : s.out.length < 100000
  ok : l ≠ [] → s.seen = true ∧ JoinOk Str.empty l = true ∧ (Txt.join Str.empty l).length ≠ 0 ∧ (Txt.join Str.empty l).length ≤ lim ∧ cleanS (Txt.join Str.empty l)
noncomputable def flS (s : S6) (l : List Str) : S6 := if l = [] then s else { s with dat := [], out := s.out ++ [.str (Txt.join Str.empty l)] }

theorem tr_listF {H : Hp} {i : Nat} (h : H.f i = .list []) : truth H (.ref i) = some false := by
  show truthO (H.f i) = _
  rw [h]; rfl
theorem tr_listT {H : Hp} {i : Nat} {xs : List V} (h : H.f i = .list xs) (hl : xs.length ≤ lim) (hne : xs ≠ []) : truth H (.ref i) = some true := by
  show truthO (H.f i) = _
  rw [h]
  refine (if_pos hl).trans ?_
  cases xs with
  | nil => exact absurd rfl hne
  | cons _ _ => rfl

/-- if self._data: self._flush() -/
theorem x_guard {k : Nat} {sc : Sc} {loc : Loc} {l : List Str} {p1 p2 p3 p4 p5 p6 p7 : Pos} (D : DatOk s l) (hself : look (pe6 P sa is) sc loc "self" = some (.ref 4)) (hpos : p6.endLine = p5.line) :
    Ev (pe6 P sa is) (k + 40) (.x sc (.If (.Attribute (.Name "self" p1) "_data" p2) [.Expr (.Call (.Attribute (.Name "self" p7) "_flush" p6) [] [] p5) p4] [] p3) loc (mk6 s G n)) (.f .next loc (mk6 (flS s l) G n)) := by
  by_cases hl : l = []
  · have e : flS s l = s := if_pos hl
    rw [e]
    have h5 : (mk6 s G n).f 5 = .list [] := by
      show AObj.list s.dat = _; rw [D.hs, hl]; rfl
    exact xv_If (tv_Gen rfl (ev_Attr rfl (ev_Name hself) rfl rfl) (tr_listF h5)) xs_nil
  · have e : flS s l = { s with dat := [], out := s.out ++ [.str (Txt.join Str.empty l)] } := if_neg hl
    rw [e]
    obtain ⟨h1, h2, h3, h4, h5⟩ := D.ok hl
    have hlim : ∀ {x : Nat}, x ≤ 100000 → x ≤ lim := fun h => Nat.le_trans h (by decide)
    have hd : (mk6 s G n).f 5 = .list s.dat := rfl
    refine xv_If (tv_Gen rfl (ev_Attr rfl (ev_Name hself) rfl rfl) (tr_listT hd (by rw [D.hs, List.length_map]; exact hlim (by have := D.hl; lia)) (by rw [D.hs]; simpa using hl))) ?_
    exact xs_cons (xv_Expr rfl (ev_CallA hpos rfl (by decide) (ev_Name hself) at_flush (ca_mt (fn_flush P sa is)) evL_nil evKw_nil (t_flush (k := k + 7) D.hs rfl h2 (hlim (by have := D.hl; lia)) h1 h3 h4 h5 (Nat.lt_of_lt_of_le D.ho (by decide))))) xs_nil

noncomputable def sc_startns : Sc := [("self", .local), ("prefix", .local), ("uri", .local)]
theorem nm_startns : (fdAt (hd.heap_39 P) 113).scope.names = sc_startns := by kernel_rfl
theorem body_startns : (fdAt (hd.heap_39 P) 113).body = .stmts (bodyAt (hd.heap_39 P) 113) := by kernel_rfl
theorem flS_ns (s : S6) (l : List Str) : (flS s l).ns = s.ns := by unfold flS; split <;> rfl
theorem flS_decl (s : S6) (l : List Str) : (flS s l).decl = s.decl := by unfold flS; split <;> rfl
theorem flS_pres (s : S6) (l : List Str) : (flS s l).pres = s.pres := by unfold flS; split <;> rfl

theorem t_startns {k : Nat} {l : List Str} {prefix_ uri : Str} {e : Nat} {xs : List V} (D : DatOk s l) (he : okId e) (hlast : s.ns.getLast? = some (.ref e)) (hG : G e = .list xs) (hx : xs.length < lim) :
    Ev (pe6 P sa is) (k + 50) (.c (.mt 113 (.ref 4)) [.str prefix_, .str uri] [] (mk6 s G n)) (.v .none (mk6 (flS s l) (upd G e (.list (xs ++ [pv (uri, prefix_)]))) n)) := by
  have hel : (mk6 (flS s l) G n).f e = .list xs := (mk6_at he).trans hG
  have hat : attr (pe6 P sa is) (mk6 (flS s l) G n) "append" (.ref e) = some (.bm .lAppend (.ref e)) := attr_list hel rfl
  have hix : index (mk6 (flS s l) G n) (.ref 8) (.int (-1)) = some (.ref e) := idx_last (by rw [flS_ns]; exact hlast)
  exact c_mt (run_fn (fn_startns P sa is) .startns body_startns nm_startns (xs_cons (xv_If (tv_Gen rfl (ev_Attr rfl (ev_Name rfl) rfl rfl) rfl) xs_nil) (xs_cons (x_guard (k := k + 9) D rfl rfl) (xs_cons (xv_Expr rfl (ev_CallA rfl rfl (by decide) (ev_Idx rfl (ev_Attr rfl (ev_Name rfl) rfl rfl) (ev_Neg (ev_Const rfl)) hix) hat rfl (evL_cons rfl (ev_Tuple (evL_cons rfl (ev_Name rfl) (evL_cons rfl (ev_Name rfl) evL_nil)) (leR rfl)) evL_nil) evKw_nil (c_bm (pv_append hel hx (mk6_put he))))) xs_nil))) rfl)
end Mine
end
section
open PySem PySem.W PyProof.Rows PySem.SeqAt Mine.Ev Mine.Prm Mine.PrF
set_option maxRecDepth 100000
set_option maxHeartbeats 400000
namespace Mine
variable {s : S6} {G : Nat → AObj} {n : Nat} {P : Params} {sa : Addr} {is : List Int}
theorem glob_len : (pe6 P sa is).glob "len" = some (.bf .len) := by kernel_rfl
noncomputable def sc_end : Sc := [("self", .local), ("tag", .local), ("len", .globalImplicit)]
theorem nm_end : (fdAt (hd.heap_39 P) 133).scope.names = sc_end := by kernel_rfl
theorem body_end : (fdAt (hd.heap_39 P) 133).body = .stmts (bodyAt (hd.heap_39 P) 133) := by kernel_rfl
noncomputable def endT (nm : Str) : Str := Str.empty ++ "</" ++ nm ++ ">"
noncomputable def endS (s : S6) (nm : Str) : S6 := { s with out := s.out ++ [.str (endT nm)], pres := s.pres.dropLast, done := ((s.pres.dropLast.length : Int) == 1), decl := s.decl.dropLast, ns := s.ns.dropLast }

theorem t_end {k : Nat} {l : List Str} {q uri tag nm : Str} {dids nids : List Nat} {dl nl : Nat → List (Str × Str)} {d : Nat} {b1 b2 b3 : V} (D : DatOk s l) (hn : 13 ≤ n) (hq : q.length ≤ 1000) (hp : Parse q uri tag) (hu : uri.length ≤ 1000) (ht : tag.length ≤ 1000) (SD : Stk G n s.decl dids dl) (SN : Stk G n s.ns nids nl) (hd0 : dids.getLast? = some d) (hdn : d ∉ nids)
    (hz1 : dids.length ≤ 900 ∧ (walkL dids dl).length ≤ 900 ∧ ∀ p ∈ walkL dids dl, p.2.length ≤ 1000) (hz2 : nids.length ≤ 900 ∧ (walkL nids nl).length ≤ 900 ∧ ∀ p ∈ walkL nids nl, p.2.length ≤ 1000) (hr : qres (walkL dids dl) (walkL nids nl) uri tag = some (nm, none)) (hnm : nm.length ≤ 3000)
    (hp1 : s.pres.getLast? = some b1 ∧ s.pres.length ≤ 1000) (hp2 : s.decl.getLast? = some b2 ∧ s.decl.length ≤ 1000) (hp3 : s.ns.getLast? = some b3 ∧ s.ns.length ≤ 1000) :
    ∃ G' n', n ≤ n' ∧ (∀ i, i < n → G' i = G i) ∧ Ev (pe6 P sa is) (k + 60) (.c (.mt 133 (.ref 4)) [.str q] [] (mk6 s G n)) (.v .none (mk6 (endS (flS s l) nm) G' n')) := by
  have SD' : Stk G n (flS s l).decl dids dl := by rw [flS_decl]; exact SD
  have SN' : Stk G n (flS s l).ns nids nl := by rw [flS_ns]; exact SN
  obtain ⟨G1, n1, h1, _, h2, h3, h4⟩ := t_qname (P := P) (sa := sa) (is := is) (k := k + 23) (s := flS s l) hn hq hp hu ht SD' SN' hd0 hdn hz1 hz2 hr
  have hdm : d ∈ dids := List.mem_of_getLast? hd0
  obtain ⟨_, hdlt, hdG⟩ := SD.ok d hdm
  have hG : ∀ i, i < n → G1 i = G i := fun i hi => by
    by_cases h : i = d
    · subst h; rw [h3, hdG]; simp
    · exact h2 i hi h
  have hout : (flS s l).out.length < lim := by
    have := D.ho
    unfold flS; split
    · exact Nat.lt_of_lt_of_le this (by decide)
    · simp only [List.length_append, List.length_singleton]
      exact Nat.lt_of_lt_of_le (Nat.succ_lt_succ this) (by decide)
  have hlim : ∀ {x : Nat}, x ≤ 100000 → x ≤ lim := fun h => Nat.le_trans h (by decide)
  have e1 : (Str.empty ++ ("</" : Str)).length = 2 := rfl
  have e2 : (Str.empty ++ ("</" : Str) ++ nm).length = 2 + nm.length := by rw [strLen_append]; rfl
  have q1 : (flS s l).pres.getLast? = some b1 := by rw [flS_pres]; exact hp1.1
  have q2 : (flS s l).decl.getLast? = some b2 := by rw [flS_decl]; exact hp2.1
  have q3 : (flS s l).ns.getLast? = some b3 := by rw [flS_ns]; exact hp3.1
  have z1 : (flS s l).pres.length ≤ lim := hlim (by rw [flS_pres]; lia)
  have z2 : (flS s l).decl.length ≤ lim := hlim (by rw [flS_decl]; lia)
  have z3 : (flS s l).ns.length ≤ lim := hlim (by rw [flS_ns]; lia)
  have z4 : (flS s l).pres.dropLast.length ≤ lim := Nat.le_trans (by rw [List.length_dropLast]; lia) z1
  refine ⟨G1, n1, h1, hG, ?_⟩
  exact c_mt (run_fn (fn_end P sa is) .end_ body_end nm_end (xs_cons (xv_If (tv_Gen rfl (ev_Attr rfl (ev_Name rfl) rfl rfl) rfl) xs_nil) (xs_cons (x_guard (k := k + 19) D rfl rfl) (xs_cons (xv_Expr rfl (ev_CallA rfl rfl (by decide) (ev_Name rfl) rfl rfl (evL_cons rfl (ev_Joined (join_cons (ev_Const rfl) (leR rfl) (join_cons (ev_Fmt (ev_Idx rfl (ev_CallA rfl rfl (by decide) (ev_Name rfl) at_qname (ca_mt (fn_qname P sa is)) (evL_cons rfl (ev_Name rfl) evL_nil) evKw_nil h4) (ev_Const rfl) rfl) (hlim (by lia))) (hlim (by rw [e1]; lia)) (join_cons (ev_Const rfl) (hlim (by rw [e2]; show 2 + nm.length + 1 ≤ _; lia)) join_nil)))) evL_nil) evKw_nil (c_bm (pv_append rfl hout put1)))) (xs_cons (xv_Expr rfl (ev_CallA rfl rfl (by decide) (ev_Attr rfl (ev_Name rfl) rfl rfl) rfl rfl evL_nil evKw_nil (c_bm (pv_pop rfl q1 z1 put12)))) (xs_cons (xv_Asg rfl (fun _ => rfl) (ev_Cmp rfl (ev_CallN (lk_glob rfl rfl glob_len) rfl (evL_cons rfl (ev_Attr rfl (ev_Name rfl) rfl rfl) evL_nil) evKw_nil (c_bf (fv_len rfl z4))) (ev_Const rfl) (cmpR rfl)) (asgs_one rfl (asg_Attr (ev_Name rfl) rfl putDone))) (xs_cons (xv_Expr rfl (ev_CallA rfl rfl (by decide) (ev_Attr rfl (ev_Name rfl) rfl rfl) rfl rfl evL_nil evKw_nil (c_bm (pv_pop rfl q2 z2 put7)))) (xs_cons (xv_Expr rfl (ev_CallA rfl rfl (by decide) (ev_Attr rfl (ev_Name rfl) rfl rfl) rfl rfl evL_nil evKw_nil (c_bm (pv_pop rfl q3 z3 put8)))) xs_nil))))))) rfl)
end Mine
end
section
open PySem PySem.W PyProof.Rows PySem.SeqAt Mine.Ev Mine.Prm Mine.PrF
set_option maxRecDepth 100000
set_option maxHeartbeats 400000
namespace Mine
variable {s : S6} {G : Nat → AObj} {n : Nat} {P : Params} {sa : Addr} {is : List Int}
theorem glob_sorted : (pe6 P sa is).glob "sorted" = some (.bf .sorted) := by kernel_rfl
theorem glob_eat : (pe6 P sa is).glob "_escape_attrib_c14n" = some (.fn 168) := by kernel_rfl
noncomputable def sc_st : Sc := [("self", .cell), ("tag", .local), ("attrs", .local), ("new_namespaces", .local), ("qname_text", .local), ("k", .local), ("v", .local), ("qnames", .local), ("resolved_names", .local), ("qname", .local), ("qattrs", .local), ("attr_name", .local), ("value", .local), ("parse_qname", .cell), ("parsed_qnames", .local), ("uri", .local), ("attr_list", .local), ("attr_qname", .local), ("space_behaviour", .local), ("write", .local), ("_looks_like_prefix_name", .globalImplicit), ("sorted", .globalImplicit), ("_escape_cdata_c14n", .globalImplicit)]
theorem nm_st : (fdAt (hd.heap_39 P) 126).scope.names = sc_st := by kernel_rfl
theorem body_st : (fdAt (hd.heap_39 P) 126).body = .stmts (bodyAt (hd.heap_39 P) 126) := by kernel_rfl
theorem lam_st : (pe6 P sa is).lam sc_st = some (125, 123, lamName) := by
  show (if sc_st = (fdAt (hd.heap_39 P) 126).scope.names then some ((125 : Addr), (123 : Addr), lamName) else none) = _
  rw [if_pos nm_st.symm]

/-- what the sort by two parts asks -/
structure Sb (s : S6) (G : Nat → AObj) (n i : Nat) (ks names : List Str) : Prop where
  hks : (mk6 s G n).f i = .set ks
  hpos : 0 < n
  h1 : ks.length < 3
  h2 : (ks.map nameKey).Nodup
  hall : ks.all (fun k => decide (k.length + 2 ≤ lim)) = true
  hal : (mk6 s G n).alloc (.list ((sortK nameKey ks).map .str)) = mk6 s (upd G n (.list (names.map .str))) (n + 1)
theorem sb {i : Nat} {ks names : List Str} (hi : okId i) (hG : G i = .set ks) (hn : 13 ≤ n) (h1 : ks.length < 3) (h2 : (ks.map nameKey).Nodup) (h3 : ∀ k ∈ ks, k.length ≤ 1000) (h4 : sortK nameKey ks = names) : Sb s G n i ks names :=
  ⟨(mk6_at hi).trans hG, Nat.lt_of_lt_of_le (by decide) hn, h1, h2, List.all_eq_true.mpr fun k hk => decide_eq_true (Nat.le_trans (Nat.add_le_add_right (h3 k hk) 2) (by decide)), by rw [h4]; exact mk6_alloc hn⟩

abbrev locS0 (q0 : Str) (a b : Nat) : Loc := [("self", .ref 4), ("tag", .str q0), ("attrs", .ref a), ("new_namespaces", .ref b), ("qname_text", .none)]
abbrev locS1 (q0 : Str) (a b i1 i2 pq : Nat) : Loc := [("self", .ref 4), ("tag", .str q0), ("attrs", .ref a), ("new_namespaces", .ref b), ("qname_text", .none), ("qnames", .ref i1), ("resolved_names", .ref i2), ("qattrs", .none), ("parse_qname", .mt 90 (.ref 4)), ("parsed_qnames", .ref pq)]

noncomputable def tupQ (nm tag uri : Str) : V := .tup [.str nm, .str tag, .str uri]

/-- what is around one call of _qname -/
structure QIn (s : S6) (G : Nat → AObj) (n : Nat) (dids nids : List Nat) (dl nl : Nat → List (Str × Str)) (d : Nat) : Prop where
  SD : Stk G n s.decl dids dl
  SN : Stk G n s.ns nids nl
  hd0 : dids.getLast? = some d
  hdn : d ∉ nids
  hz1 : dids.length ≤ 900 ∧ (walkL dids dl).length ≤ 900 ∧ ∀ p ∈ walkL dids dl, p.2.length ≤ 1000
  hz2 : nids.length ≤ 900 ∧ (walkL nids nl).length ≤ 900 ∧ ∀ p ∈ walkL nids nl, p.2.length ≤ 1000
structure QArg (q uri tag : Str) : Prop where
  hq : q.length ≤ 1000
  hp : Parse q uri tag
  hu : uri.length ≤ 1000
  ht : tag.length ≤ 1000

/-- the first part, without attributes -/
theorem st_one {k : Nat} {q0 uri0 tag0 nm0 : Str} {dc0 : Option (Str × Str)} {a d : Nat} {dids nids : List Nat} {dl nl : Nat → List (Str × Str)} (hn : 13 ≤ n) (A : QArg q0 uri0 tag0) (I : QIn s G n dids nids dl nl d) (ha : okId a ∧ a < n ∧ G a = .dict []) (had : a ≠ d) (hr : qres (walkL dids dl) (walkL nids nl) uri0 tag0 = some (nm0, dc0)) :
    ∃ G' n' i1 i2 pq, n ≤ n' ∧ (∀ i, i < n → i ≠ d → G' i = G i) ∧ G' d = .list ((dl d ++ dc0.toList).map pv) ∧ okId pq ∧ n ≤ pq ∧ pq < n' ∧ G' pq = .dict [(q0, tupQ nm0 tag0 uri0)] ∧
      ∀ fl lc h, Ev (pe6 P sa is) (k + 60) (.xs sc_st ((bodyAt (hd.heap_39 P) 126).drop 7) (locS1 q0 a d i1 i2 pq) (mk6 s G' n')) (.f fl lc h) → Ev (pe6 P sa is) (k + 60) (.xs sc_st (bodyAt (hd.heap_39 P) 126) (locS0 q0 a d) (mk6 s G n)) (.f fl lc h) := by
  have hset : okId n := .inr (.inr (.inr hn))
  -- the set, the dict, the sorted names
  let G1 := upd G n (.set [q0])
  let G2 := upd G1 (n + 1) (.dict [])
  let G3 := upd G2 (n + 2) (.list [.str q0])
  have hG3 : ∀ i, i < n → G3 i = G i := fun i hi => by
    show (if i = n + 2 then _ else if i = n + 1 then _ else if i = n then _ else G i) = G i
    rw [if_neg (by lia), if_neg (by lia), if_neg (by lia)]
  have hdlt : d < n := (I.SD.ok d (List.mem_of_getLast? I.hd0)).2.1
  obtain ⟨G4, n4, h4a, h4b, h4c, h4d, h4e⟩ := t_qname (P := P) (sa := sa) (is := is) (k := k + 27) (s := s) (G := G3) (n := n + 3) (by lia) A.hq A.hp A.hu A.ht (I.SD.mono (by lia) hG3) (I.SN.mono (by lia) hG3) I.hd0 I.hdn I.hz1 I.hz2 hr
  have al1 : (mk6 s G n).alloc (.set (addAll [q0] (([] : List (Str × V)).map (·.1)))) = mk6 s G1 (n + 1) := mk6_alloc hn
  have al2 : (mk6 s G1 (n + 1)).alloc (.dict []) = mk6 s G2 (n + 2) := mk6_alloc (by lia)
  have hso := sb (s := s) (G := G2) (n := n + 2) (i := n) (ks := [q0]) (names := [q0]) hset (by show (if n = n + 1 then _ else if n = n then _ else G n) = _; rw [if_neg (by lia), if_pos rfl]) (by lia) (leR rfl) (by simp) (fun k hk => by rw [List.mem_singleton] at hk; subst hk; exact A.hq) rfl
  have hw : okId (n + 2) := .inr (.inr (.inr (by lia)))
  have hit : items (mk6 s G3 (n + 3)) (.ref (n + 2)) = some ([.str q0], some (n + 2)) := by
    have : (mk6 s G3 (n + 3)).f (n + 2) = .list [.str q0] := (mk6_at hw).trans (if_pos rfl)
    exact items_ref this
  have hst : stands (mk6 s G3 (n + 3)) (mk6 s G4 n4) (some (n + 2)) := by
    show (mk6 s G4 n4).f (n + 2) = (mk6 s G3 (n + 3)).f (n + 2)
    rw [mk6_at hw, mk6_at hw]; exact h4c _ (by lia) (by lia)
  have hpq : okId n4 := .inr (.inr (.inr (by lia)))
  refine ⟨upd G4 n4 (.dict [(q0, tupQ nm0 tag0 uri0)]), n4 + 1, n, n + 1, n4, by lia, fun i hi hid => (if_neg (by lia)).trans ((h4c i (by lia) hid).trans (hG3 i hi)), (if_neg (by lia)).trans h4d, hpq, by lia, by lia, if_pos rfl, fun fl lc h hz => ?_⟩
  have hae : (mk6 s G n).f a = .dict [] := (mk6_at ha.1).trans ha.2.2
  exact (xs_cons (xv_If (tv_Bool (test_stop (tv_Cmp rfl (ev_Attr rfl (ev_Name rfl) rfl rfl) (ev_Const rfl) (cmpR rfl)) rfl)) xs_nil) (xs_cons (xv_Asg rfl (fun _ => rfl) (ev_Set rfl rfl hae (leR rfl) al1) (asgs_one rfl (asg_Name rfl))) (xs_cons (xv_Asg rfl (fun _ => rfl) (ev_Dict0 al2) (asgs_one rfl (asg_Name rfl))) (xs_cons (xv_If (tv_Cmp rfl (ev_Name rfl) (ev_Const rfl) (cmpR rfl)) xs_nil) (xs_cons (xv_If (tv_Bool (test_stop (tv_Cmp rfl (ev_Attr rfl (ev_Name rfl) rfl rfl) (ev_Const rfl) (cmpR rfl)) rfl)) (xs_cons (xv_Asg rfl (fun _ => rfl) (ev_Const rfl) (asgs_one rfl (asg_Name rfl))) xs_nil)) (xs_cons (xv_Asg rfl (fun _ => rfl) (ev_Attr rfl (ev_Name rfl) at_qname rfl) (asgs_one rfl (asg_Name rfl))) (xs_cons (xv_AsgC rfl (ev_DC rfl rfl (ev_SortK rfl rfl (lk_glob rfl rfl glob_sorted) (ev_Name rfl) hso.hks lam_st hso.hpos rfl hso.h1 hso.h2 hso.hall hso.hal) hit rfl (cl_cons rfl ifs_nil (in_kv (ev_Name rfl) (ev_CallN rfl (ca_mt (fn_qname P sa is)) (evL_cons rfl (ev_Name rfl) evL_nil) evKw_nil h4e)) hst cl_nil) (leR rfl) (mk6_alloc (by lia))) (asgs_one rfl (asg_Name rfl))) hz)))))))
end Mine
end
section
open PySem PySem.W PyProof.Rows PySem.SeqAt Mine.Ev Mine.Prm Mine.PrF
set_option maxRecDepth 100000
set_option maxHeartbeats 400000
namespace Mine
variable {s : S6} {G : Nat → AObj} {n : Nat} {P : Params} {sa : Addr} {is : List Int}
noncomputable def updD (dl : Nat → List (Str × Str)) (d : Nat) (l : List (Str × Str)) : Nat → List (Str × Str) := fun j => if j = d then l else dl j

/-- the first part, with one attribute -/
theorem st_two {k : Nat} {q0 uri0 tag0 nm0 q1 uri1 tag1 nm1 : Str} {dc0 dc1 : Option (Str × Str)} {a d : Nat} {dids nids : List Nat} {dl nl : Nat → List (Str × Str)} {v1 : V} (hn : 13 ≤ n) (A : QArg q0 uri0 tag0) (B : QArg q1 uri1 tag1) (I : QIn s G n dids nids dl nl d) (ha : okId a ∧ a < n ∧ G a = .dict [(q1, v1)]) (had : a ≠ d) (hne : q0 ≠ q1) (hsk : sortK nameKey [q1, q0] = [q0, q1]) (hnd : ([q1, q0].map nameKey).Nodup)
    (hr : qres (walkL dids dl) (walkL nids nl) uri0 tag0 = some (nm0, dc0)) (hz1 : (walkL dids (updD dl d (dl d ++ dc0.toList))).length ≤ 900 ∧ ∀ p ∈ walkL dids (updD dl d (dl d ++ dc0.toList)), p.2.length ≤ 1000) (hr1 : qres (walkL dids (updD dl d (dl d ++ dc0.toList))) (walkL nids nl) uri1 tag1 = some (nm1, dc1)) :
    ∃ G' n' i1 i2 pq, n ≤ n' ∧ (∀ i, i < n → i ≠ d → G' i = G i) ∧ G' d = .list (((dl d ++ dc0.toList) ++ dc1.toList).map pv) ∧ okId pq ∧ n ≤ pq ∧ pq < n' ∧ G' pq = .dict [(q0, tupQ nm0 tag0 uri0), (q1, tupQ nm1 tag1 uri1)] ∧
      ∀ fl lc h, Ev (pe6 P sa is) (k + 60) (.xs sc_st ((bodyAt (hd.heap_39 P) 126).drop 7) (locS1 q0 a d i1 i2 pq) (mk6 s G' n')) (.f fl lc h) → Ev (pe6 P sa is) (k + 60) (.xs sc_st (bodyAt (hd.heap_39 P) 126) (locS0 q0 a d) (mk6 s G n)) (.f fl lc h) := by
  have hset : okId n := .inr (.inr (.inr hn))
  let G1 := upd G n (.set [q1, q0])
  let G2 := upd G1 (n + 1) (.dict [])
  let G3 := upd G2 (n + 2) (.list [.str q0, .str q1])
  have hG3 : ∀ i, i < n → G3 i = G i := fun i hi => by
    show (if i = n + 2 then _ else if i = n + 1 then _ else if i = n then _ else G i) = G i
    rw [if_neg (by lia), if_neg (by lia), if_neg (by lia)]
  have hdm : d ∈ dids := List.mem_of_getLast? I.hd0
  have hdlt : d < n := (I.SD.ok d hdm).2.1
  obtain ⟨G4, n4, h4a, h4b, h4c, h4d, h4e⟩ := t_qname (P := P) (sa := sa) (is := is) (k := k + 27) (s := s) (G := G3) (n := n + 3) (by lia) A.hq A.hp A.hu A.ht (I.SD.mono (by lia) hG3) (I.SN.mono (by lia) hG3) I.hd0 I.hdn I.hz1 I.hz2 hr
  have SD5 : Stk G4 n4 s.decl dids (updD dl d (dl d ++ dc0.toList)) := ⟨I.SD.eq, fun j hj => by
    obtain ⟨o1, o2, o3⟩ := I.SD.ok j hj
    refine ⟨o1, by lia, ?_⟩
    by_cases h : j = d
    · subst h; rw [h4d]; simp [updD]
    · rw [h4c j (by lia) h, hG3 j o2, o3]; simp [updD, h]⟩
  have SN5 : Stk G4 n4 s.ns nids nl := ⟨I.SN.eq, fun j hj => by
    obtain ⟨o1, o2, o3⟩ := I.SN.ok j hj
    have h : j ≠ d := fun e => I.hdn (e ▸ hj)
    exact ⟨o1, by lia, by rw [h4c j (by lia) h, hG3 j o2, o3]⟩⟩
  obtain ⟨G5, n5, h5a, h5b, h5c, h5d, h5e⟩ := t_qname (P := P) (sa := sa) (is := is) (k := k + 27) (s := s) (G := G4) (n := n4) (by lia) B.hq B.hp B.hu B.ht SD5 SN5 I.hd0 I.hdn ⟨I.hz1.1, hz1⟩ I.hz2 hr1
  have e5 : updD dl d (dl d ++ dc0.toList) d = dl d ++ dc0.toList := if_pos rfl
  rw [e5] at h5d
  have hadd : addAll [q0] ([(q1, v1)].map (·.1)) = [q1, q0] := by
    show addL [q0] q1 = _
    unfold addL
    rw [if_neg (by simpa using fun e => hne e.symm)]
  have al1 : (mk6 s G n).alloc (.set (addAll [q0] ([(q1, v1)].map (·.1)))) = mk6 s G1 (n + 1) := by rw [hadd]; exact mk6_alloc hn
  have al2 : (mk6 s G1 (n + 1)).alloc (.dict []) = mk6 s G2 (n + 2) := mk6_alloc (by lia)
  have hso := sb (s := s) (G := G2) (n := n + 2) (i := n) (ks := [q1, q0]) (names := [q0, q1]) hset (by show (if n = n + 1 then _ else if n = n then _ else G n) = _; rw [if_neg (by lia), if_pos rfl]) (by lia) (leR rfl) hnd (fun k hk => by
    rcases List.mem_cons.mp hk with rfl | hk
    · exact B.hq
    · rw [List.mem_singleton] at hk; subst hk; exact A.hq) hsk
  have hw : okId (n + 2) := .inr (.inr (.inr (by lia)))
  have hit : items (mk6 s G3 (n + 3)) (.ref (n + 2)) = some ([.str q0, .str q1], some (n + 2)) := by
    have : (mk6 s G3 (n + 3)).f (n + 2) = .list [.str q0, .str q1] := (mk6_at hw).trans (if_pos rfl)
    exact items_ref this
  have hst : stands (mk6 s G3 (n + 3)) (mk6 s G4 n4) (some (n + 2)) := by
    show (mk6 s G4 n4).f (n + 2) = (mk6 s G3 (n + 3)).f (n + 2)
    rw [mk6_at hw, mk6_at hw]; exact h4c _ (by lia) (by lia)
  have hst2 : stands (mk6 s G3 (n + 3)) (mk6 s G5 n5) (some (n + 2)) := by
    show (mk6 s G5 n5).f (n + 2) = (mk6 s G3 (n + 3)).f (n + 2)
    rw [mk6_at hw, mk6_at hw, h5c _ (by lia) (by lia)]; exact h4c _ (by lia) (by lia)
  have hpq : okId n5 := .inr (.inr (.inr (by lia)))
  have al3 : (mk6 s G5 n5).alloc (.dict (dictL ([.tup [.str q0, tupQ nm0 tag0 uri0]] ++ ([.tup [.str q1, tupQ nm1 tag1 uri1]] ++ [])))) = mk6 s (upd G5 n5 (.dict [(q0, tupQ nm0 tag0 uri0), (q1, tupQ nm1 tag1 uri1)])) (n5 + 1) := by
    have : dictL ([.tup [.str q0, tupQ nm0 tag0 uri0]] ++ ([.tup [.str q1, tupQ nm1 tag1 uri1]] ++ [])) = [(q0, tupQ nm0 tag0 uri0), (q1, tupQ nm1 tag1 uri1)] := by
      show setL [(q0, tupQ nm0 tag0 uri0)] q1 (tupQ nm1 tag1 uri1) = _
      unfold setL; rw [if_neg hne]; rfl
    rw [this]; exact mk6_alloc (by lia)
  refine ⟨upd G5 n5 (.dict [(q0, tupQ nm0 tag0 uri0), (q1, tupQ nm1 tag1 uri1)]), n5 + 1, n, n + 1, n5, by lia, fun i hi hid => (if_neg (by lia)).trans ((h5c i (by lia) hid).trans ((h4c i (by lia) hid).trans (hG3 i hi))), (if_neg (by lia)).trans h5d, hpq, by lia, by lia, if_pos rfl, fun fl lc h hz => ?_⟩
  have hae : (mk6 s G n).f a = .dict [(q1, v1)] := (mk6_at ha.1).trans ha.2.2
  exact (xs_cons (xv_If (tv_Bool (test_stop (tv_Cmp rfl (ev_Attr rfl (ev_Name rfl) rfl rfl) (ev_Const rfl) (cmpR rfl)) rfl)) xs_nil) (xs_cons (xv_Asg rfl (fun _ => rfl) (ev_Set rfl rfl hae (leR rfl) al1) (asgs_one rfl (asg_Name rfl))) (xs_cons (xv_Asg rfl (fun _ => rfl) (ev_Dict0 al2) (asgs_one rfl (asg_Name rfl))) (xs_cons (xv_If (tv_Cmp rfl (ev_Name rfl) (ev_Const rfl) (cmpR rfl)) xs_nil) (xs_cons (xv_If (tv_Bool (test_stop (tv_Cmp rfl (ev_Attr rfl (ev_Name rfl) rfl rfl) (ev_Const rfl) (cmpR rfl)) rfl)) (xs_cons (xv_Asg rfl (fun _ => rfl) (ev_Const rfl) (asgs_one rfl (asg_Name rfl))) xs_nil)) (xs_cons (xv_Asg rfl (fun _ => rfl) (ev_Attr rfl (ev_Name rfl) at_qname rfl) (asgs_one rfl (asg_Name rfl))) (xs_cons (xv_AsgC rfl (ev_DC rfl rfl (ev_SortK rfl rfl (lk_glob rfl rfl glob_sorted) (ev_Name rfl) hso.hks lam_st hso.hpos rfl hso.h1 hso.h2 hso.hall hso.hal) hit rfl (cl_cons rfl ifs_nil (in_kv (ev_Name rfl) (ev_CallN rfl (ca_mt (fn_qname P sa is)) (evL_cons rfl (ev_Name rfl) evL_nil) evKw_nil h4e)) hst (cl_cons rfl ifs_nil (in_kv (ev_Name rfl) (ev_CallN rfl (ca_mt (fn_qname P sa is)) (evL_cons rfl (ev_Name rfl) evL_nil) evKw_nil h5e)) hst2 cl_nil)) (leR rfl) al3) (asgs_one rfl (asg_Name rfl))) hz)))))))
end Mine
end
section
open PySem PySem.W PyProof.Rows PySem.SeqAt Mine.Ev Mine.Prm Mine.PrF
set_option maxRecDepth 100000
set_option maxHeartbeats 400000
namespace Mine
variable {s : S6} {G : Nat → AObj} {n : Nat} {P : Params} {sa : Addr} {is : List Int}

theorem cl_pv {pe : Pe} {m : Nat} {sc : Sc} {em : Em} {target : Expr} {ifs : List Expr} {loc : Loc} {src : Option Nat} {H : Hp} {g : Str × Str → V} (hs : stands H H src) : ∀ {N : List (Str × Str)}, (∀ p ∈ N, ∃ loc', bindT sc H target (pv p) loc = some loc' ∧ Ev pe m (.ifs sc loc' ifs H) (.b true H) ∧ Ev pe m (.inn sc em [] loc' H) (.l [g p] H)) → Ev pe m (.cl sc em [] target ifs loc src H (N.map pv) H) (.l (N.map g) H)
  | [], _ => .cl_nil
  | p :: N, h => let ⟨_, h1, h2, h3⟩ := h p List.mem_cons_self; .cl_cons h1 h2 h3 hs (cl_pv hs fun q hq => h q (List.mem_cons_of_mem _ hq))
theorem upd_upd {i : Nat} {x y : AObj} : upd (upd G i x) i y = upd G i y := by
  funext j
  by_cases h : j = i <;> simp [upd, h]
theorem upd_at {i : Nat} {x : AObj} : upd G i x i = x := if_pos rfl
noncomputable def xn (p : Str) : Str := if p.length = 0 then "xmlns" else "xmlns:" ++ p
noncomputable def alOf (p : Str × Str) : Str × Str := (xn p.2, p.1)
abbrev locS2 (q0 : Str) (a b i1 i2 pq al : Nat) : Loc := [("self", .ref 4), ("tag", .str q0), ("attrs", .ref a), ("new_namespaces", .ref b), ("qname_text", .none), ("qnames", .ref i1), ("resolved_names", .ref i2), ("qattrs", .none), ("parse_qname", .mt 90 (.ref 4)), ("parsed_qnames", .ref pq), ("attr_list", .ref al)]

/-- the declarations as attributes -/
theorem st_decl {k : Nat} {q0 : Str} {a d i1 i2 pq : Nat} {N : List (Str × Str)} (hn : 13 ≤ n) (hdd : okId d) (hG : G d = .list (N.map pv)) (hN : N.length ≤ 1000 ∧ ∀ p ∈ N, p.2.length ≤ 1000) (hso : SortV ((N.map alOf).map pv) ((N.map alOf).map pv)) :
    ∀ fl lc h, Ev (pe6 P sa is) (k + 60) (.xs sc_st ((bodyAt (hd.heap_39 P) 126).drop 8) (locS2 q0 a d i1 i2 pq n) (mk6 s (upd G n (.list ((N.map alOf).map pv))) (n + 1))) (.f fl lc h) → Ev (pe6 P sa is) (k + 60) (.xs sc_st ((bodyAt (hd.heap_39 P) 126).drop 7) (locS1 q0 a d i1 i2 pq) (mk6 s G n)) (.f fl lc h) := by
  intro fl lc h hz
  have hlim : ∀ {x : Nat}, x ≤ 3000 → x ≤ lim := fun h => Nat.le_trans h (by decide)
  have hdl : (mk6 s G n).f d = .list (N.map pv) := (mk6_at hdd).trans hG
  have hok : okId n := .inr (.inr (.inr hn))
  by_cases hN0 : N = []
  · subst hN0
    exact xs_cons (xv_If (tv_Gen rfl (ev_Name rfl) (tr_listF hdl)) (xs_cons (xv_Asg rfl (fun _ => rfl) (ev_List evL_nil (leR rfl) (mk6_alloc hn)) (asgs_one rfl (asg_Name rfl))) xs_nil)) hz
  · have hit : items (mk6 s G n) (.ref d) = some (N.map pv, some d) := items_ref hdl
    have hle : (N.map fun p => pv (alOf p)).length ≤ lim := by rw [List.length_map]; exact hlim (by lia)
    have hme : (N.map fun p => pv (alOf p)) = (N.map alOf).map pv := by rw [List.map_map]; rfl
    have hal : (mk6 s G n).alloc (.list (N.map fun p => pv (alOf p))) = mk6 s (upd G n (.list ((N.map alOf).map pv))) (n + 1) := by rw [hme]; exact mk6_alloc hn
    have hat2 : (mk6 s (upd G n (.list ((N.map alOf).map pv))) (n + 1)).f n = .list ((N.map alOf).map pv) := (mk6_at hok).trans upd_at
    have hat : attr (pe6 P sa is) (mk6 s (upd G n (.list ((N.map alOf).map pv))) (n + 1)) "sort" (.ref n) = some (.bm .lSort (.ref n)) := attr_list hat2 rfl
    have hput : (mk6 s (upd G n (.list ((N.map alOf).map pv))) (n + 1)).put n (.list ((N.map alOf).map pv)) = mk6 s (upd G n (.list ((N.map alOf).map pv))) (n + 1) := by
      rw [mk6_put hok, upd_upd]
    exact xs_cons (xv_If (tv_Gen rfl (ev_Name rfl) (tr_listT hdl (by rw [List.length_map]; exact hlim (by lia)) (by simpa using hN0)))
      (xs_cons (xv_AsgC rfl (ev_LC rfl rfl (ev_Name rfl) hit rfl (cl_pv (g := fun p => pv (alOf p)) stands_refl fun p hp => by
        have hpl := hN.2 p hp
        by_cases h : p.2.length = 0
        · have e : alOf p = (("xmlns" : Str), p.1) := by simp [alOf, xn, h]
          rw [e]
          refine ⟨_, rfl, ifs_nil, in_el ?_⟩
          exact (ev_Tuple (evL_cons rfl (ev_If (tv_Gen rfl (ev_Name rfl) (tr_strF h)) (ev_Const rfl)) (evL_cons rfl (ev_Name rfl) evL_nil)) (leR rfl))
        · have e : alOf p = ("xmlns:" ++ p.2, p.1) := by simp [alOf, xn, h]
          rw [e]
          refine ⟨_, rfl, ifs_nil, in_el ?_⟩
          exact (ev_Tuple (evL_cons rfl (ev_If (tv_Gen rfl (ev_Name rfl) (tr_strT (hlim (by lia)) h)) (ev_Bin (ev_Const rfl) (ev_Name rfl) (.addS (hlim (by show 6 + p.2.length ≤ 3000; lia))))) (evL_cons rfl (ev_Name rfl) evL_nil)) (leR rfl))) hle hal) (asgs_one rfl (asg_Name rfl))) (xs_cons (xv_Expr rfl (ev_CallA rfl rfl (by decide) (ev_Name rfl) hat rfl evL_nil evKw_nil (c_bm (pv_sort hat2 hso hput)))) xs_nil))) hz

theorem sortV_one {x y : Str} : SortV [pv (x, y)] [pv (x, y)] := ⟨rfl, leR rfl, List.nodup_cons.mpr ⟨List.not_mem_nil, .nil⟩, rfl⟩
abbrev locS3 (q0 : Str) (a b i1 i2 pq al : Nat) (q1 x1 nm1 tag1 uri1 : Str) : Loc := [("self", .ref 4), ("tag", .str q0), ("attrs", .ref a), ("new_namespaces", .ref b), ("qname_text", .none), ("qnames", .ref i1), ("resolved_names", .ref i2), ("qattrs", .none), ("parse_qname", .mt 90 (.ref 4)), ("parsed_qnames", .ref pq), ("attr_list", .ref al), ("k", .str q1), ("v", .str x1), ("attr_qname", .str nm1), ("attr_name", .str tag1), ("uri", .str uri1)]
theorem tr_dictF {H : Hp} {i : Nat} (h : H.f i = .dict []) : truth H (.ref i) = some false := by
  show truthO (H.f i) = _
  rw [h]; rfl
theorem tr_dictT {H : Hp} {i : Nat} {q : Str × V} (h : H.f i = .dict [q]) : truth H (.ref i) = some true := by
  show truthO (H.f i) = _
  rw [h]; rfl
theorem st_noattr {k : Nat} {q0 : Str} {a d i1 i2 pq al : Nat} (ha : okId a) (hG : G a = .dict []) :
    ∀ fl lc h, Ev (pe6 P sa is) (k + 60) (.xs sc_st ((bodyAt (hd.heap_39 P) 126).drop 9) (locS2 q0 a d i1 i2 pq al) (mk6 s G n)) (.f fl lc h) → Ev (pe6 P sa is) (k + 60) (.xs sc_st ((bodyAt (hd.heap_39 P) 126).drop 8) (locS2 q0 a d i1 i2 pq al) (mk6 s G n)) (.f fl lc h) := by
  intro fl lc h hz
  have hae : (mk6 s G n).f a = .dict [] := (mk6_at ha).trans hG
  exact xs_cons (xv_If (tv_Gen rfl (ev_Name rfl) (tr_dictF hae)) xs_nil) hz
theorem st_attr {k : Nat} {q0 q1 x1 nm1 tag1 uri1 : Str} {a d i1 i2 pq al : Nat} {L : List (Str × Str)} {v0 : V} (hn : 13 ≤ n) (ha : okId a) (ha2 : a < n) (hG : G a = .dict [(q1, .str x1)]) (hpq : okId pq) (hp2 : pq < n) (hGp : G pq = .dict [(q0, v0), (q1, tupQ nm1 tag1 uri1)]) (hne : q0 ≠ q1) (hal : okId al) (hal2 : al < n) (hGa : G al = .list (L.map pv)) (hL : L.length ≤ 1000) (hu : uri1.length ≠ 0 ∧ uri1.length ≤ 1000) :
    ∃ G', (∀ i, i < n → i ≠ al → G' i = G i) ∧ G' al = .list ((L ++ [(nm1, x1)]).map pv) ∧ ∀ fl lc h, Ev (pe6 P sa is) (k + 60) (.xs sc_st ((bodyAt (hd.heap_39 P) 126).drop 9) (locS3 q0 a d i1 i2 pq al q1 x1 nm1 tag1 uri1) (mk6 s G' (n + 1))) (.f fl lc h) → Ev (pe6 P sa is) (k + 60) (.xs sc_st ((bodyAt (hd.heap_39 P) 126).drop 8) (locS2 q0 a d i1 i2 pq al) (mk6 s G n)) (.f fl lc h) := by
  have hlim : ∀ {x : Nat}, x ≤ 3000 → x ≤ lim := fun h => Nat.le_trans h (by decide)
  have hae : (mk6 s G n).f a = .dict [(q1, .str x1)] := (mk6_at ha).trans hG
  have hok : okId n := .inr (.inr (.inr hn))
  let G1 := upd G n (.list [pv (q1, x1)])
  have e1 : ∀ i, i < n → G1 i = G i := fun i hi => if_neg (by lia)
  have hal1 : (mk6 s G n).alloc (.list [pv (q1, x1)]) = mk6 s G1 (n + 1) := mk6_alloc hn
  have hit : items (mk6 s G1 (n + 1)) (.ref n) = some ([pv (q1, x1)], some n) := by
    have : (mk6 s G1 (n + 1)).f n = .list [pv (q1, x1)] := (mk6_at hok).trans upd_at
    exact items_ref this
  have hpf : (mk6 s G1 (n + 1)).f pq = .dict [(q0, v0), (q1, tupQ nm1 tag1 uri1)] := (mk6_at hpq).trans ((e1 pq hp2).trans hGp)
  have hidx : index (mk6 s G1 (n + 1)) (.ref pq) (.str q1) = some (tupQ nm1 tag1 uri1) := by
    have hb : (q1 == q0) = false := by simpa using fun e => hne e.symm
    rw [idx_dict hpf]; simp only [List.lookup, hb, beq_self_eq_true]
  have haf : (mk6 s G1 (n + 1)).f al = .list (L.map pv) := (mk6_at hal).trans ((e1 al hal2).trans hGa)
  have hat : attr (pe6 P sa is) (mk6 s G1 (n + 1)) "append" (.ref al) = some (.bm .lAppend (.ref al)) := attr_list haf rfl
  have hati : attr (pe6 P sa is) (mk6 s G n) "items" (.ref a) = some (.bm .dItems (.ref a)) := attr_dict hae rfl
  have hput : (mk6 s G1 (n + 1)).put al (.list (L.map pv ++ [pv (nm1, x1)])) = mk6 s (upd G1 al (.list ((L ++ [(nm1, x1)]).map pv))) (n + 1) := by
    rw [mk6_put hal]; simp
  refine ⟨upd G1 al (.list ((L ++ [(nm1, x1)]).map pv)), fun i hi h => (if_neg h).trans (e1 i hi), upd_at, fun fl lc h hz => ?_⟩
  have hst : stands (mk6 s G1 (n + 1)) (mk6 s (upd G1 al (.list ((L ++ [(nm1, x1)]).map pv))) (n + 1)) (some n) := by
    show (mk6 s _ (n + 1)).f n = (mk6 s G1 (n + 1)).f n
    rw [mk6_at hok, mk6_at hok]; exact if_neg (by lia)
  exact xs_cons (xv_If (tv_Gen rfl (ev_Name rfl) (tr_dictT hae)) (xs_cons (xv_For rfl (ev_CallN (lk_glob rfl rfl glob_sorted) rfl (evL_cons rfl (ev_CallA rfl rfl (by decide) (ev_Name rfl) hati rfl evL_nil evKw_nil (c_bm (pv_items hae))) evL_nil) evKw_nil (c_bf (fv_sorted hae sortV_one hal1))) hit
    (for_go (fb rfl (xs_cons (xv_If (tv_Bool (test_stop (tv_Cmp rfl (ev_Name rfl) (ev_Const rfl) (cmpR rfl)) rfl)) xs_nil) (xs_cons (xv_Asg rfl (fun _ => rfl) (ev_Idx rfl (ev_Name rfl) (ev_Name rfl) hidx) (asgs_one rfl (asg_Tup rfl rfl))) (xs_cons (xv_Expr rfl (ev_CallA rfl rfl (by decide) (ev_Name rfl) hat rfl (evL_cons rfl (ev_Tuple (evL_cons rfl (ev_If (tv_Gen rfl (ev_Name rfl) (tr_strT (hlim (by lia)) hu.1)) (ev_Name rfl)) (evL_cons rfl (ev_Name rfl) evL_nil)) (leR rfl)) evL_nil) evKw_nil (c_bm (pv_append haf (by rw [List.length_map]; exact Nat.lt_of_le_of_lt hL (by decide)) hput)))) xs_nil)))) rfl for_nil hst)) xs_nil)) hz
end Mine
end
section
open PySem PySem.W PyProof.Rows PySem.SeqAt Mine.Ev Mine.Prm Mine.PrF
set_option maxRecDepth 100000
set_option maxHeartbeats 400000
namespace Mine
variable {s : S6} {G : Nat → AObj} {n : Nat} {P : Params} {sa : Addr} {is : List Int}

noncomputable def atx (p : Str × Str) : Str := Str.empty ++ " " ++ p.1 ++ "=\"" ++ p.2 ++ "\""
noncomputable def aOut (L : List (Str × Str)) : List V := if L = [] then [] else [.str (Txt.join Str.empty (L.map atx))]
noncomputable def spaceN : Str := "{http://www.w3.org/XML/1998/namespace}space"
structure LOk (L : List (Str × Str)) : Prop where
  len : L.length ≤ 1000
  sz : ∀ p ∈ L, p.1.length ≤ 1000 ∧ p.2.length ≤ 1000 ∧ cleanS p.2
  join : JoinOk Str.empty (L.map atx) = true

/-- the state behind _start -/
noncomputable def stS (s : S6) (nm : Str) (L : List (Str × Str)) (b : V) (m : Nat) : S6 := { s with out := s.out ++ [.str ("<" ++ nm)] ++ aOut L ++ [.str ">"], pres := s.pres ++ [b], seen := true, ns := s.ns ++ [.ref m] }

section
variable {pe : Pe} {H : Hp}
theorem atxv {pe : Pe} {n : Nat} {sc : Sc} {loc : Loc} {H : Hp} {p1 p2 p3 p4 p5 p6 : Pos} {a c : Expr} {x y : Str} (hx : x.length ≤ 1000) (hy : y.length ≤ 1000) (h1 : Ev pe n (.e sc loc a H) (.v (.str x) H)) (h2 : Ev pe n (.e sc loc c H) (.v (.str y) H)) :
    Ev pe (n + 2) (.e sc loc (.JoinedStr [.Constant (.str " ") 0 p1, .FormattedValue a (-1) none p2, .Constant (.str "=\"") 0 p3, .FormattedValue c (-1) none p4, .Constant (.str "\"") 0 p5] p6) H) (.v (.str (atx (x, y))) H) := by
  have hlim : ∀ {x : Nat}, x ≤ 3000 → x ≤ lim := fun h => Nat.le_trans h (by decide)
  have e1 : (Str.empty ++ (" " : Str)).length = 1 := rfl
  have e2 : (Str.empty ++ (" " : Str) ++ x).length = 1 + x.length := by rw [strLen_append]; rfl
  have e3 : (Str.empty ++ (" " : Str) ++ x ++ ("=\"" : Str)).length = 1 + x.length + 2 := by rw [strLen_append, e2]; rfl
  have e4 : (Str.empty ++ (" " : Str) ++ x ++ ("=\"" : Str) ++ y).length = 1 + x.length + 2 + y.length := by rw [strLen_append, e3]
  exact ev_Joined (join_cons (ev_Const rfl) (leR rfl) (join_cons (ev_Fmt h1 (hlim (by lia))) (hlim (by rw [e1]; lia)) (join_cons (ev_Const rfl) (hlim (by rw [e2]; show 1 + x.length + 2 ≤ 3000; lia)) (join_cons (ev_Fmt h2 (hlim (by lia))) (hlim (by rw [e3]; lia)) (join_cons (ev_Const rfl) (hlim (by rw [e4]; show 1 + x.length + 2 + y.length + 1 ≤ 3000; lia)) join_nil)))))
end

theorem st_fin {k : Nat} {q0 nm0 tag0 uri0 : Str} {a d i1 i2 pq al : Nat} {L : List (Str × Str)} {loc : Loc} {kvs pkv : List (Str × V)} {b : V} (hn : 13 ≤ n) (hloc : loc = locS2 q0 a d i1 i2 pq al ∨ ∃ q1 x1 nm1 tag1 uri1, loc = locS3 q0 a d i1 i2 pq al q1 x1 nm1 tag1 uri1)
    (ha : okId a) (hG : G a = .dict kvs) (hsp : kvs.lookup spaceN = none) (hpq : okId pq) (hGp : G pq = .dict pkv) (hpk : pkv.lookup q0 = some (tupQ nm0 tag0 uri0)) (hal : okId al) (hGa : G al = .list (L.map pv)) (hL : LOk L) (hnm : nm0.length ≤ 3000) (hpr : s.pres.getLast? = some b) (hpl : s.pres.length ≤ 1000) (hnl : s.ns.length ≤ 1000) (hol : s.out.length ≤ 100000) :
    ∃ G' n' m loc', n ≤ n' ∧ (∀ i, i < n → G' i = G i) ∧ okId m ∧ n ≤ m ∧ m < n' ∧ G' m = .list [] ∧
      Ev (pe6 P sa is) (k + 60) (.xs sc_st ((bodyAt (hd.heap_39 P) 126).drop 9) loc (mk6 s G n)) (.f .next loc' (mk6 (stS s nm0 L b m) G' n')) := by
  have hlim : ∀ {x : Nat}, x ≤ 200000 → x ≤ lim := fun h => Nat.le_trans h (by decide)
  have hlim' : ∀ {x : Nat}, x ≤ 200000 → x < lim := fun h => Nat.lt_of_le_of_lt h (by decide)
  have hae : (mk6 s G n).f a = .dict kvs := (mk6_at ha).trans hG
  have hgat : attr (pe6 P sa is) (mk6 s G n) "get" (.ref a) = some (.bm .dGet (.ref a)) := attr_dict hae rfl
  have hget : Prm (mk6 s G n) .dGet (.ref a) [.str spaceN] .none (mk6 s G n) := by
    have := pv_get (k := spaceN) hae
    rwa [hsp] at this
  have hix : index (mk6 s G n) (.ref 12) (.int (-1)) = some b := idx_last hpr
  let s1 : S6 := { s with pres := s.pres ++ [b] }
  have hpf : (mk6 s1 G n).f pq = .dict pkv := (mk6_at hpq).trans hGp
  have hidx : index (mk6 s1 G n) (.ref pq) (.str q0) = some (tupQ nm0 tag0 uri0) := by
    rw [idx_dict hpf]; exact hpk
  let s2 : S6 := { s1 with out := s.out ++ [.str ("<" ++ nm0)] }
  let s3 : S6 := { s2 with out := s2.out ++ aOut L }
  have haf : (mk6 s2 G n).f al = .list (L.map pv) := (mk6_at hal).trans hGa
  have hlt : ((("<" : Str).length) + nm0.length) ≤ lim := hlim (by show 1 + nm0.length ≤ _; lia)
  have ho2 : s2.out.length ≤ 100001 := by
    show (s.out ++ [_]).length ≤ _
    rw [List.length_append, List.length_singleton]; lia
  have ho3 : s3.out.length ≤ 100002 := by
    show (s2.out ++ aOut L).length ≤ _
    rw [List.length_append]
    have : (aOut L).length ≤ 1 := by unfold aOut; split <;> simp
    lia
  -- the attributes
  have key : ∃ G' n', n ≤ n' ∧ (∀ i, i < n → G' i = G i) ∧ ∀ fl lc h, Ev (pe6 P sa is) (k + 60) (.xs sc_st ((bodyAt (hd.heap_39 P) 126).drop 14) (setL (setL loc "space_behaviour" .none) "write" (.bm .lAppend (.ref 1))) (mk6 s3 G' n')) (.f fl lc h) → Ev (pe6 P sa is) (k + 60) (.xs sc_st ((bodyAt (hd.heap_39 P) 126).drop 13) (setL (setL loc "space_behaviour" .none) "write" (.bm .lAppend (.ref 1))) (mk6 s2 G n)) (.f fl lc h) := by
    by_cases hL0 : L = []
    · subst hL0
      have e : s3 = s2 := by
        show ({ s2 with out := s2.out ++ [] } : S6) = s2
        rw [List.append_nil]
      refine ⟨G, n, Nat.le_refl _, fun _ _ => rfl, fun fl lc h hz => ?_⟩
      rw [e] at hz
      rcases hloc with rfl | ⟨q1, x1, nm1, tag1, uri1, rfl⟩
      all_goals exact xs_cons (xv_If (tv_Gen rfl (ev_Name rfl) (tr_listF haf)) xs_nil) hz
    · have e : aOut L = [.str (Txt.join Str.empty (L.map atx))] := if_neg hL0
      have hit : items (mk6 s2 G n) (.ref al) = some (L.map pv, some al) := items_ref haf
      let G1 := upd G n (.list (L.map fun p => V.str (atx p)))
      have hok : okId n := .inr (.inr (.inr hn))
      have hle : (L.map fun p => V.str (atx p)).length ≤ lim := by rw [List.length_map]; exact hlim (by have := hL.len; lia)
      have hjn : Prm (mk6 s2 G1 (n + 1)) .tJoin (.str "") [.ref n] (.str (Txt.join Str.empty (L.map atx))) (mk6 s2 G1 (n + 1)) := by
        refine pv_join (xs := L.map fun p => V.str (atx p)) ((mk6_at hok).trans upd_at) ?_ hL.join
        rw [show (L.map fun p => V.str (atx p)) = (L.map atx).map .str by rw [List.map_map]; rfl]
        exact strsOf_map _
      have hput : (mk6 s2 G1 (n + 1)).put 1 (.list (s2.out ++ [.str (Txt.join Str.empty (L.map atx))])) = mk6 s3 G1 (n + 1) := by
        rw [put1, ← e]
      refine ⟨G1, n + 1, Nat.le_succ _, fun i hi => if_neg (by lia), fun fl lc h hz => ?_⟩
      rcases hloc with rfl | ⟨q1, x1, nm1, tag1, uri1, rfl⟩
      all_goals exact xs_cons (xv_If (tv_Gen rfl (ev_Name rfl) (tr_listT haf (by rw [List.length_map]; exact hlim (by have := hL.len; lia)) (by simpa using hL0)))
        (xs_cons (xv_Expr rfl (ev_CallN rfl rfl (evL_cons rfl (ev_CallA rfl rfl (by decide) (ev_Const rfl) rfl rfl (evL_cons rfl (ev_Comp (ev_LC rfl rfl (ev_Name rfl) hit rfl (cl_pv (g := fun p => V.str (atx p)) stands_refl fun p hp => by
          obtain ⟨h1, h2, h3⟩ := hL.sz p hp
          exact ⟨_, rfl, ifs_nil, in_el (atxv h1 h2 (ev_Name rfl) (ev_CallN (lk_glob rfl rfl glob_eat) (ca_fn (fn_eat P sa is)) (evL_cons rfl (ev_Name rfl) evL_nil) evKw_nil (t_eat (k := k + 40) h3)))⟩) hle (mk6_alloc hn))) evL_nil) evKw_nil (c_bm hjn)) evL_nil) evKw_nil (c_bm (pv_append rfl (hlim' (by lia)) hput)))) xs_nil)) hz
  obtain ⟨G2, n2, h2a, h2b, h2c⟩ := key
  have hm : okId n2 := .inr (.inr (.inr (by lia)))
  let s4 : S6 := { s3 with out := s3.out ++ [.str ">"] }
  let s5 : S6 := { s4 with seen := true }
  have hal5 : (mk6 s5 G2 n2).alloc (.list []) = mk6 s5 (upd G2 n2 (.list [])) (n2 + 1) := mk6_alloc (by lia)
  refine ⟨upd G2 n2 (.list []), n2 + 1, n2, setL (setL loc "space_behaviour" .none) "write" (.bm .lAppend (.ref 1)), by lia, fun i hi => (if_neg (by lia)).trans (h2b i hi), hm, h2a, Nat.lt_succ_self _, upd_at, ?_⟩
  rcases hloc with rfl | ⟨q1, x1, nm1, tag1, uri1, rfl⟩
  all_goals exact (xs_cons (xv_Asg rfl (fun _ => rfl) (ev_CallA rfl rfl (by decide) (ev_Name rfl) hgat rfl (evL_cons rfl (ev_Const rfl) evL_nil) evKw_nil (c_bm hget)) (asgs_one rfl (asg_Name rfl))) (xs_cons (xv_Expr rfl (ev_CallA rfl rfl (by decide) (ev_Attr rfl (ev_Name rfl) rfl rfl) rfl rfl (evL_cons rfl (ev_If (tv_Gen rfl (ev_Name rfl) rfl) (ev_Idx rfl (ev_Attr rfl (ev_Name rfl) rfl rfl) (ev_Neg (ev_Const rfl)) hix)) evL_nil) evKw_nil (c_bm (pv_append rfl (hlim' (by lia)) put12)))) (xs_cons (xv_Asg rfl (fun _ => rfl) (ev_Attr rfl (ev_Name rfl) rfl rfl) (asgs_one rfl (asg_Name rfl))) (xs_cons (xv_Expr rfl (ev_CallN rfl rfl (evL_cons rfl (ev_Bin (ev_Const rfl) (ev_Idx rfl (ev_Idx rfl (ev_Name rfl) (ev_Name rfl) hidx) (ev_Const rfl) rfl) (.addS hlt)) evL_nil) evKw_nil (c_bm (pv_append rfl (hlim' (by show s.out.length ≤ _; lia)) put1)))) (h2c _ _ _ (xs_cons (xv_Expr rfl (ev_CallN rfl rfl (evL_cons rfl (ev_Const rfl) evL_nil) evKw_nil (c_bm (pv_append rfl (hlim' (by lia)) put1)))) (xs_cons (xv_If (tv_Cmp rfl (ev_Name rfl) (ev_Const rfl) (cmpR rfl)) xs_nil) (xs_cons (xv_Asg rfl (fun _ => rfl) (ev_Const rfl) (asgs_one rfl (asg_Attr (ev_Name rfl) rfl putSeen))) (xs_cons (xv_Expr rfl (ev_CallA rfl rfl (by decide) (ev_Attr rfl (ev_Name rfl) rfl rfl) rfl rfl (evL_cons rfl (ev_List evL_nil (leR rfl) hal5) evL_nil) evKw_nil (c_bm (pv_append rfl (hlim' (by show s.ns.length ≤ _; lia)) put8)))) xs_nil)))))))))
end Mine
end
section
open PySem PySem.W PyProof.Rows PySem.SeqAt Mine.Ev Mine.Prm Mine.PrF
set_option maxRecDepth 100000
set_option maxHeartbeats 400000
namespace Mine
variable {s : S6} {G : Nat → AObj} {n : Nat} {P : Params} {sa : Addr} {is : List Int}

/-- sizes that _start needs -/
structure SOk (s : S6) (b : V) : Prop where
  hpr : s.pres.getLast? = some b
  hpl : s.pres.length ≤ 1000
  hnl : s.ns.length ≤ 1000
  hol : s.out.length ≤ 100000
structure NOk (N : List (Str × Str)) : Prop where
  len : N.length ≤ 900
  sz : ∀ p ∈ N, p.2.length ≤ 1000
  so : SortV ((N.map alOf).map pv) ((N.map alOf).map pv)

theorem t_stA {k : Nat} {q0 uri0 tag0 nm0 : Str} {dc0 : Option (Str × Str)} {a d : Nat} {dids nids : List Nat} {dl nl : Nat → List (Str × Str)} {b : V} (hn : 13 ≤ n) (A : QArg q0 uri0 tag0) (I : QIn s G n dids nids dl nl d) (ha : okId a ∧ a < n ∧ G a = .dict []) (had : a ≠ d) (hr : qres (walkL dids dl) (walkL nids nl) uri0 tag0 = some (nm0, dc0)) (hnm : nm0.length ≤ 3000) (S : SOk s b) (hN : NOk (dl d ++ dc0.toList)) (hL : LOk ((dl d ++ dc0.toList).map alOf)) :
    ∃ G' n' m, n ≤ n' ∧ (∀ i, i < n → i ≠ d → G' i = G i) ∧ G' d = .list ((dl d ++ dc0.toList).map pv) ∧ okId m ∧ n ≤ m ∧ m < n' ∧ G' m = .list [] ∧
      Ev (pe6 P sa is) (k + 61) (.c (.mt 126 (.ref 4)) [.str q0, .ref a, .ref d] [] (mk6 s G n)) (.v .none (mk6 (stS s nm0 ((dl d ++ dc0.toList).map alOf) b m) G' n')) := by
  obtain ⟨G1, n1, i1, i2, pq, h1, h2, h3, h4, h5, h6, h7, h8⟩ := st_one (P := P) (sa := sa) (is := is) (k := k) hn A I ha had hr
  have hdm : d ∈ dids := List.mem_of_getLast? I.hd0
  obtain ⟨hdk, hdlt, hdG⟩ := I.SD.ok d hdm
  have h9 := st_decl (P := P) (sa := sa) (is := is) (s := s) (k := k) (q0 := q0) (a := a) (i1 := i1) (i2 := i2) (pq := pq) (n := n1) (G := G1) (by lia) hdk h3 ⟨by have := hN.len; lia, hN.sz⟩ hN.so
  let G2 := upd G1 n1 (.list (((dl d ++ dc0.toList).map alOf).map pv))
  have e2 : ∀ i, i < n1 → G2 i = G1 i := fun i hi => if_neg (by lia)
  have ga : G2 a = .dict [] := (e2 a (by lia)).trans ((h2 a ha.2.1 had).trans ha.2.2)
  have h10 := st_noattr (P := P) (sa := sa) (is := is) (s := s) (k := k) (q0 := q0) (a := a) (d := d) (i1 := i1) (i2 := i2) (pq := pq) (al := n1) (n := n1 + 1) (G := G2) ha.1 ga
  obtain ⟨G3, n3, m, loc', j1, j2, j3, j4, j5, j6, j7⟩ := st_fin (P := P) (sa := sa) (is := is) (s := s) (k := k) (q0 := q0) (nm0 := nm0) (tag0 := tag0) (uri0 := uri0) (a := a) (d := d) (i1 := i1) (i2 := i2) (pq := pq) (al := n1) (n := n1 + 1) (G := G2) (L := (dl d ++ dc0.toList).map alOf) (b := b) (by lia) (.inl rfl) ha.1 ga rfl h4 ((e2 pq h6).trans h7) (by simp [List.lookup]) (.inr (.inr (.inr (by lia)))) upd_at hL hnm S.hpr S.hpl S.hnl S.hol
  refine ⟨G3, n3, m, by lia, fun i hi h => (j2 i (by lia)).trans ((e2 i (by lia)).trans (h2 i hi h)), (j2 d (by lia)).trans ((e2 d (by lia)).trans h3), j3, by lia, j5, j6, ?_⟩
  exact c_mt (run_fn (fn_start' P sa is) .start2 body_st nm_st (h8 _ _ _ (h9 _ _ _ (h10 _ _ _ j7))) rfl)

theorem t_stB {k : Nat} {q0 uri0 tag0 nm0 q1 uri1 tag1 nm1 x1 : Str} {dc0 dc1 : Option (Str × Str)} {a d : Nat} {dids nids : List Nat} {dl nl : Nat → List (Str × Str)} {b : V} (hn : 13 ≤ n) (A : QArg q0 uri0 tag0) (B : QArg q1 uri1 tag1) (I : QIn s G n dids nids dl nl d) (ha : okId a ∧ a < n ∧ G a = .dict [(q1, .str x1)]) (had : a ≠ d) (hne : q0 ≠ q1) (hsk : sortK nameKey [q1, q0] = [q0, q1]) (hnd : ([q1, q0].map nameKey).Nodup) (hsp : ([(q1, .str x1)] : List (Str × V)).lookup spaceN = none) (hu1 : uri1.length ≠ 0)
    (hr : qres (walkL dids dl) (walkL nids nl) uri0 tag0 = some (nm0, dc0)) (hz1 : (walkL dids (updD dl d (dl d ++ dc0.toList))).length ≤ 900 ∧ ∀ p ∈ walkL dids (updD dl d (dl d ++ dc0.toList)), p.2.length ≤ 1000) (hr1 : qres (walkL dids (updD dl d (dl d ++ dc0.toList))) (walkL nids nl) uri1 tag1 = some (nm1, dc1)) (hnm : nm0.length ≤ 3000) (S : SOk s b) (hN : NOk ((dl d ++ dc0.toList) ++ dc1.toList)) (hL : LOk (((dl d ++ dc0.toList) ++ dc1.toList).map alOf ++ [(nm1, x1)])) :
    ∃ G' n' m, n ≤ n' ∧ (∀ i, i < n → i ≠ d → G' i = G i) ∧ G' d = .list (((dl d ++ dc0.toList) ++ dc1.toList).map pv) ∧ okId m ∧ n ≤ m ∧ m < n' ∧ G' m = .list [] ∧
      Ev (pe6 P sa is) (k + 61) (.c (.mt 126 (.ref 4)) [.str q0, .ref a, .ref d] [] (mk6 s G n)) (.v .none (mk6 (stS s nm0 (((dl d ++ dc0.toList) ++ dc1.toList).map alOf ++ [(nm1, x1)]) b m) G' n')) := by
  obtain ⟨G1, n1, i1, i2, pq, h1, h2, h3, h4, h5, h6, h7, h8⟩ := st_two (P := P) (sa := sa) (is := is) (k := k) hn A B I ha had hne hsk hnd hr hz1 hr1
  have hdm : d ∈ dids := List.mem_of_getLast? I.hd0
  obtain ⟨hdk, hdlt, hdG⟩ := I.SD.ok d hdm
  have h9 := st_decl (P := P) (sa := sa) (is := is) (s := s) (k := k) (q0 := q0) (a := a) (i1 := i1) (i2 := i2) (pq := pq) (n := n1) (G := G1) (by lia) hdk h3 ⟨by have := hN.len; lia, hN.sz⟩ hN.so
  let G2 := upd G1 n1 (.list ((((dl d ++ dc0.toList) ++ dc1.toList).map alOf).map pv))
  have e2 : ∀ i, i < n1 → G2 i = G1 i := fun i hi => if_neg (by lia)
  have ga : G2 a = .dict [(q1, .str x1)] := (e2 a (by lia)).trans ((h2 a ha.2.1 had).trans ha.2.2)
  have gp : G2 pq = .dict [(q0, tupQ nm0 tag0 uri0), (q1, tupQ nm1 tag1 uri1)] := (e2 pq h6).trans h7
  obtain ⟨G3, f1, f2, f3⟩ := st_attr (P := P) (sa := sa) (is := is) (s := s) (k := k) (q0 := q0) (nm1 := nm1) (tag1 := tag1) (uri1 := uri1) (a := a) (d := d) (i1 := i1) (i2 := i2) (pq := pq) (al := n1) (n := n1 + 1) (G := G2) (L := ((dl d ++ dc0.toList) ++ dc1.toList).map alOf) (by lia) ha.1 (by lia) ga h4 (by lia) gp hne (.inr (.inr (.inr (by lia)))) (by lia) upd_at (by rw [List.length_map]; have := hN.len; lia) ⟨hu1, B.hu⟩
  obtain ⟨G4, n4, m, loc', j1, j2, j3, j4, j5, j6, j7⟩ := st_fin (P := P) (sa := sa) (is := is) (s := s) (k := k) (q0 := q0) (nm0 := nm0) (tag0 := tag0) (uri0 := uri0) (a := a) (d := d) (i1 := i1) (i2 := i2) (pq := pq) (al := n1) (n := n1 + 2) (G := G3) (L := ((dl d ++ dc0.toList) ++ dc1.toList).map alOf ++ [(nm1, x1)]) (b := b) (by lia) (.inr ⟨_, _, _, _, _, rfl⟩) ha.1 ((f1 a (by lia) (by lia)).trans ga) hsp h4 ((f1 pq (by lia) (by lia)).trans gp) (by simp [List.lookup]) (.inr (.inr (.inr (by lia)))) f2 hL hnm S.hpr S.hpl S.hnl S.hol
  refine ⟨G4, n4, m, by lia, fun i hi h => (j2 i (by lia)).trans ((f1 i (by lia) (by lia)).trans ((e2 i (by lia)).trans (h2 i hi h))), (j2 d (by lia)).trans ((f1 d (by lia) (by lia)).trans ((e2 d (by lia)).trans h3)), j3, by lia, j5, j6, ?_⟩
  exact c_mt (run_fn (fn_start' P sa is) .start2 body_st nm_st (h8 _ _ _ (h9 _ _ _ (f3 _ _ _ j7))) rfl)

noncomputable def sc_start : Sc := [("self", .local), ("tag", .local), ("attrs", .local), ("new_namespaces", .local)]
theorem nm_start : (fdAt (hd.heap_39 P) 120).scope.names = sc_start := by kernel_rfl
theorem body_start : (fdAt (hd.heap_39 P) 120).body = .stmts (bodyAt (hd.heap_39 P) 120) := by kernel_rfl
/-- start, from what _start does -/
theorem t_start {k : Nat} {l : List Str} {q0 : Str} {a : Nat} {s' : S6} {G' : Nat → AObj} {n' : Nat} (D : DatOk s l) (hn : 13 ≤ n) (hdl : s.decl.length ≤ 1000)
    (h : Ev (pe6 P sa is) (k + 61) (.c (.mt 126 (.ref 4)) [.str q0, .ref a, .ref n] [] (mk6 { flS s l with decl := s.decl ++ [.ref n] } (upd G n (.list [])) (n + 1))) (.v .none (mk6 s' G' n'))) :
    Ev (pe6 P sa is) (k + 64) (.c (.mt 120 (.ref 4)) [.str q0, .ref a] [] (mk6 s G n)) (.v .none (mk6 s' G' n')) := by
  have hal : (mk6 (flS s l) G n).alloc (.list []) = mk6 (flS s l) (upd G n (.list [])) (n + 1) := mk6_alloc hn
  have hput : (mk6 (flS s l) (upd G n (.list [])) (n + 1)).put 7 (.list ((flS s l).decl ++ [.ref n])) = mk6 { flS s l with decl := s.decl ++ [.ref n] } (upd G n (.list [])) (n + 1) := by
    rw [put7, flS_decl]
  have hlen : (flS s l).decl.length < lim := by rw [flS_decl]; exact Nat.lt_of_le_of_lt hdl (by decide)
  exact c_mt (run_fn (fn_start P sa is) .start body_start nm_start (xs_cons (xv_If (tv_Bool (test_stop (tv_Cmp rfl (ev_Attr rfl (ev_Name rfl) rfl rfl) (ev_Const rfl) (cmpR rfl)) rfl)) xs_nil) (xs_cons (x_guard (k := k + 23) D rfl rfl) (xs_cons (xv_Asg rfl (fun _ => rfl) (ev_List evL_nil (leR rfl) hal) (asgs_one rfl (asg_Name rfl))) (xs_cons (xv_Expr rfl (ev_CallA rfl rfl (by decide) (ev_Attr rfl (ev_Name rfl) rfl rfl) rfl rfl (evL_cons rfl (ev_Name rfl) evL_nil) evKw_nil (c_bm (pv_append rfl hlen hput)))) (xs_cons (xv_If (tv_Bool (test_stop (tv_Cmp rfl (ev_Attr rfl (ev_Name rfl) rfl rfl) (ev_Const rfl) (cmpR rfl)) rfl)) xs_nil) (xs_cons (xv_Expr rfl (ev_CallA rfl rfl (by decide) (ev_Name rfl) at_start (ca_mt (fn_start' P sa is)) (evL_cons rfl (ev_Name rfl) (evL_cons rfl (ev_Name rfl) (evL_cons rfl (ev_Name rfl) evL_nil))) evKw_nil h)) xs_nil)))))) rfl)
end Mine
end
section
open PySem PySem.W PyProof.Rows PySem.SeqAt Mine.Ev Mine.Prm Mine.PrF
set_option maxRecDepth 100000
set_option maxHeartbeats 1000000
namespace Mine
variable {s : S6} {G : Nat → AObj} {n : Nat} {P : Params} {sa : Addr} {is : List Int}
noncomputable def nsL : List (Str × Str) := [("http://www.w3.org/XML/1998/namespace", "xml"), ("http://www.w3.org/1999/xhtml", "html"), ("http://www.w3.org/1999/02/22-rdf-syntax-ns#", "rdf"), ("http://schemas.xmlsoap.org/wsdl/", "wsdl"), ("http://www.w3.org/2001/XMLSchema", "xs"), ("http://www.w3.org/2001/XMLSchema-instance", "xsi"), ("http://purl.org/dc/elements/1.1/", "dc")]
noncomputable def xmlP : Str × Str := ("http://www.w3.org/XML/1998/namespace", "xml")
theorem nsm_eq : (pe6 P sa is).nsm = some nsL := by kernel_rfl
noncomputable def sc_init : Sc := [("self", .local), ("write", .local), ("with_comments", .local), ("strip_text", .local), ("rewrite_prefixes", .local), ("qname_aware_tags", .local), ("qname_aware_attrs", .local), ("exclude_attrs", .local), ("exclude_tags", .local), ("set", .globalImplicit), ("list", .globalImplicit), ("_namespace_map", .globalImplicit)]
theorem nm_init : (fdAt (hd.heap_39 P) 67).scope.names = sc_init := by kernel_rfl
theorem body_init : (fdAt (hd.heap_39 P) 67).body = .stmts (bodyAt (hd.heap_39 P) 67) := by kernel_rfl
theorem init_some : (pe6 P sa is).init 150 = some 67 := by kernel_rfl

noncomputable def g0 : Nat → AObj := fun i => if i = 6 then .list [pv xmlP] else if i = 9 then .list (nsL.map pv) else if i = 10 then .list [] else .tab 123 lamName
noncomputable def s0 : S6 := ⟨[], [], false, false, [], [.ref 6], [.ref 9, .ref 10], [.bool false]⟩
noncomputable def h3 : Hp := (H0.alloc (.list [])).alloc (.list [])
noncomputable def ikF : List (Str × V) := [("_write", .bm .lAppend (.ref 1)), ("_data", .ref 5), ("_with_comments", .bool false), ("_strip_text", .bool false), ("_exclude_attrs", .none), ("_exclude_tags", .none), ("_rewrite_prefixes", .bool false), ("_qname_aware_tags", .none), ("_find_qname_aware_attrs", .none), ("_declared_ns_stack", .ref 7), ("_ns_stack", .ref 8), ("_prefix_map", .ref 11), ("_preserve_space", .ref 12), ("_pending_start", .none), ("_root_seen", .bool false), ("_root_done", .bool false), ("_ignored_depth", .int 0)]
noncomputable def ik (i : Nat) : List (Str × V) := ikF.take i
/-- the heap while __init__ runs -/
noncomputable def hI (kvs : List (Str × V)) (os : List (Nat × AObj)) (m : Nat) : Hp := ⟨ifs ((3, .ns kvs) :: (4, .inst 150 3) :: os) (fun _ => .tab 123 lamName), m⟩
theorem hI_alloc {kvs : List (Str × V)} {os : List (Nat × AObj)} {m : Nat} {o : AObj} (h : 5 ≤ m) : (hI kvs os m).alloc o = hI kvs ((m, o) :: os) (m + 1) := by
  refine congrArg (fun f => Hp.mk f (m + 1)) (funext fun j => ?_)
  show (if j = m then o else if j = 3 then _ else if j = 4 then _ else ifs os _ j) = if j = 3 then _ else if j = 4 then _ else if j = m then o else ifs os _ j
  by_cases h3 : j = 3
  · rw [if_pos h3, if_pos h3, if_neg (by lia)]
  · rw [if_neg h3, if_neg h3]
    by_cases h4 : j = 4
    · rw [if_pos h4, if_pos h4, if_neg (by lia)]
    · rw [if_neg h4, if_neg h4]
theorem hI_put {kvs : List (Str × V)} {os : List (Nat × AObj)} {m k : Nat} {o : AObj} (h3 : k ≠ 3) (h4 : k ≠ 4) (h : k ∈ os.map (·.1)) : (hI kvs os m).put k o = hI kvs (setK os k o) m := by
  refine (ifs_put (l := (3, .ns kvs) :: (4, .inst 150 3) :: os) (.tail _ (.tail _ h))).trans ?_
  show (⟨ifs (if k = 3 then _ else (3, _) :: if k = 4 then _ else (4, _) :: setK os k o) _, m⟩ : Hp) = _
  rw [if_neg h3, if_neg h4]; rfl
abbrev locI (w : V) : Loc := [("self", .ref 4), ("write", w), ("with_comments", .bool false), ("strip_text", .bool false), ("rewrite_prefixes", .bool false), ("qname_aware_tags", .none), ("qname_aware_attrs", .none), ("exclude_attrs", .none), ("exclude_tags", .none)]
/-- self.name = e -/
theorem x_self {k : Nat} {kvs kvs' : List (Str × V)} {os os' : List (Nat × AObj)} {m m' : Nat} {name : Str} {c : Option Addr} {a : Expr} {v w : V} {p1 p2 p3 : Pos} (hc : isCompE a = false) (hw : ∀ env, swappedStores [.Attribute (.Name "self" p1) name p2] a env = pure none) (h1 : Ev (pe6 P sa is) (k + 1) (.e sc_init (locI w) a (hI kvs os m)) (.v v (hI kvs os' m'))) (hcl : (pe6 P sa is).cls 150 name = some c) (hl : kvs.length < 1000) (hs : setL kvs name v = kvs') :
    Ev (pe6 P sa is) (k + 2) (.x sc_init (.Assign [.Attribute (.Name "self" p1) name p2] a p3) (locI w) (hI kvs os m)) (.f .next (locI w) (hI kvs' os' m')) := by
  refine xv_Asg hc hw h1 (asgs_one rfl (asg_Attr (w := .ref 4) (d := 3) (ev_Name rfl) ?_ ?_))
  · show ((pe6 P sa is).cls 150 name).map (fun _ => 3) = _
    rw [hcl]; rfl
  · subst hs
    refine (if_pos hl).trans (congrArg some ?_)
    exact ifs_put (l := (3, .ns kvs) :: (4, .inst 150 3) :: os') List.mem_cons_self
theorem mem_of {k : Nat} {l : List Nat} (h : l.contains k = true) : k ∈ l := List.contains_iff_mem.mp h
theorem hI_start : (h3.alloc (.ns [])).alloc (.inst 150 h3.n) = hI (ik 0) [(2, .list []), (1, .list [])] 5 := by
  refine congrArg (fun f => Hp.mk f 5) (funext fun j => ?_)
  match j with
  | 0 => rfl
  | 1 => rfl
  | 2 => rfl
  | 3 => rfl
  | 4 => rfl
  | j + 5 => rfl
theorem t_init {k : Nat} : ∃ H', Ev (pe6 P sa is) (k + 30) (.c (.fn 150) [.bm .lAppend (.ref 1)] [] h3) (.v (.ref 4) H') ∧ instOf (pe6 P sa is) H' "_iter_namespaces" (.ref 4) = some 3 ∧ putN H' 3 "_iter_namespaces" (.fn 173) (H'.f 3) = some (mk6 s0 g0 13) := by
  have go : ∃ os, Ev (pe6 P sa is) (k + 29) (.xs sc_init (bodyAt (hd.heap_39 P) 67) (locI (.bm .lAppend (.ref 1))) (hI (ik 0) [(2, .list []), (1, .list [])] 5)) (.f .next (locI (.bm .lAppend (.ref 1))) (hI (ik 17) os 13)) ∧ putN (hI (ik 17) os 13) 3 "_iter_namespaces" (.fn 173) ((hI (ik 17) os 13).f 3) = some (mk6 s0 g0 13) := by
    refine ⟨[(12, .list [.bool false]), (11, .dict []), (10, .list []), (9, .list (nsL.map pv)), (8, .list [.ref 9, .ref 10]), (7, .list [.ref 6]), (6, .list [pv xmlP]), (5, .list []), (2, .list []), (1, .list [])], ?_, ?_⟩
    · exact (xs_cons (x_self (kvs := ik 0) (kvs' := ik 1) rfl (fun _ => rfl) (ev_Name rfl) rfl (leR rfl) (by kernel_rfl))
  (xs_cons (x_self (kvs := ik 1) (kvs' := ik 2) rfl (fun _ => rfl) (ev_List evL_nil (leR rfl) (hI_alloc (leR rfl))) rfl (leR rfl) (by kernel_rfl))
  (xs_cons (x_self (kvs := ik 2) (kvs' := ik 3) rfl (fun _ => rfl) (ev_Name rfl) rfl (leR rfl) (by kernel_rfl))
  (xs_cons (x_self (kvs := ik 3) (kvs' := ik 4) rfl (fun _ => rfl) (ev_Name rfl) rfl (leR rfl) (by kernel_rfl))
  (xs_cons (x_self (kvs := ik 4) (kvs' := ik 5) rfl (fun _ => rfl) (ev_If (tv_Gen rfl (ev_Name rfl) rfl) (ev_Const rfl)) rfl (leR rfl) (by kernel_rfl))
  (xs_cons (x_self (kvs := ik 5) (kvs' := ik 6) rfl (fun _ => rfl) (ev_If (tv_Gen rfl (ev_Name rfl) rfl) (ev_Const rfl)) rfl (leR rfl) (by kernel_rfl))
  (xs_cons (x_self (kvs := ik 6) (kvs' := ik 7) rfl (fun _ => rfl) (ev_Name rfl) rfl (leR rfl) (by kernel_rfl))
  (xs_cons (xv_If (tv_Gen rfl (ev_Name rfl) rfl) (xs_cons (x_self (kvs := ik 7) (kvs' := ik 8) rfl (fun _ => rfl) (ev_Const rfl) rfl (leR rfl) (by kernel_rfl)) xs_nil))
  (xs_cons (xv_If (tv_Gen rfl (ev_Name rfl) rfl) (xs_cons (x_self (kvs := ik 8) (kvs' := ik 9) rfl (fun _ => rfl) (ev_Const rfl) rfl (leR rfl) (by kernel_rfl)) xs_nil))
  (xs_cons (x_self (kvs := ik 9) (kvs' := ik 10) rfl (fun _ => rfl) (ev_List (evL_cons rfl (ev_List (evL_cons rfl (ev_Tuple (evL_cons rfl (ev_Const rfl) (evL_cons rfl (ev_Const rfl) evL_nil)) (leR rfl)) evL_nil) (leR rfl) (hI_alloc (leR rfl))) evL_nil) (leR rfl) (hI_alloc (leR rfl))) rfl (leR rfl) (by kernel_rfl))
  (xs_cons (x_self (kvs := ik 10) (kvs' := ik 11) rfl (fun _ => rfl) (ev_List evL_nil (leR rfl) (hI_alloc (leR rfl))) rfl (leR rfl) (by kernel_rfl))
  (xs_cons (xv_If (tv_Not (tv_Gen rfl (ev_Name rfl) rfl)) (xs_cons (xv_Expr rfl (ev_CallA rfl rfl (by decide) (ev_Attr rfl (ev_Name rfl) (show fld (pe6 P sa is) _ "_ns_stack" (.ref 4) = some (.ref 8) from by kernel_rfl) rfl) rfl rfl (evL_cons rfl (ev_NsMap rfl rfl rfl nsm_eq (hI_alloc (leR rfl))) evL_nil) evKw_nil (c_bm (pv_append (xs := []) rfl (leR rfl) (hI_put (by decide) (by decide) (mem_of rfl)))))) xs_nil))
  (xs_cons (xv_Expr rfl (ev_CallA rfl rfl (by decide) (ev_Attr rfl (ev_Name rfl) (show fld (pe6 P sa is) _ "_ns_stack" (.ref 4) = some (.ref 8) from by kernel_rfl) rfl) rfl rfl (evL_cons rfl (ev_List evL_nil (leR rfl) (hI_alloc (leR rfl))) evL_nil) evKw_nil (c_bm (pv_append (xs := [.ref 9]) rfl (leR rfl) (hI_put (by decide) (by decide) (mem_of rfl))))))
  (xs_cons (x_self (kvs := ik 11) (kvs' := ik 12) rfl (fun _ => rfl) (ev_Dict0 (hI_alloc (leR rfl))) rfl (leR rfl) (by kernel_rfl))
  (xs_cons (x_self (kvs := ik 12) (kvs' := ik 13) rfl (fun _ => rfl) (ev_List (evL_cons rfl (ev_Const rfl) evL_nil) (leR rfl) (hI_alloc (leR rfl))) rfl (leR rfl) (by kernel_rfl))
  (xs_cons (x_self (kvs := ik 13) (kvs' := ik 14) rfl (fun _ => rfl) (ev_Const rfl) rfl (leR rfl) (by kernel_rfl))
  (xs_cons (x_self (kvs := ik 14) (kvs' := ik 15) rfl (fun _ => rfl) (ev_Const rfl) rfl (leR rfl) (by kernel_rfl))
  (xs_cons (x_self (kvs := ik 15) (kvs' := ik 16) rfl (fun _ => rfl) (ev_Const rfl) rfl (leR rfl) (by kernel_rfl))
  (xs_cons (x_self (kvs := ik 16) (kvs' := ik 17) rfl (fun _ => rfl) (ev_Const rfl) rfl (leR rfl) (by kernel_rfl)) xs_nil)))))))))))))))))))
    · refine congrArg some (congrArg (fun f => Hp.mk f 13) (funext fun j => ?_))
      match j with
      | 0 => kernel_rfl
      | 1 => kernel_rfl
      | 2 => kernel_rfl
      | 3 => kernel_rfl
      | 4 => kernel_rfl
      | 5 => kernel_rfl
      | 6 => kernel_rfl
      | 7 => kernel_rfl
      | 8 => kernel_rfl
      | 9 => kernel_rfl
      | 10 => kernel_rfl
      | 11 => kernel_rfl
      | 12 => kernel_rfl
      | j + 13 => kernel_rfl
  obtain ⟨os, h1, h2⟩ := go
  rw [← hI_start] at h1
  exact ⟨hI (ik 17) os 13, c_cls init_some (run_fn (fn_init P sa is) .init body_init nm_init h1 rfl), by kernel_rfl, h2⟩
end Mine
end
section
open PySem PySem.W PyProof.Rows PySem.SeqAt Mine.Ev Mine.Prm Mine.PrF
set_option maxRecDepth 100000
set_option maxHeartbeats 400000
namespace Mine

abbrev sE : Str := ""
noncomputable def Uok (u : Str) : Prop := u = "" ∨ u = "d" ∨ u = "e"
noncomputable def ppP : Str × Str := ("p", "p")
noncomputable def PairOk (x : Str × Str) : Prop := (Uok x.1 ∧ x.2 = "") ∨ x = ppP
noncomputable def Dok (DL : List (Str × Str)) : Prop := ∀ x ∈ DL, PairOk x ∨ x = xmlP
noncomputable def Nok (NL : List (Str × Str)) : Prop := ∀ x ∈ NL, PairOk x ∨ x ∈ nsL
noncomputable def nearD : List (Str × Str) → Option Str
  | [] => none
  | x :: r => if x.2 = "" then some x.1 else nearD r

theorem Uok.ne_p {u : Str} (h : Uok u) : u ≠ "p" := by
  rcases h with rfl | rfl | rfl <;> decide
theorem Uok.ne_xml {u : Str} (h : Uok u) : u ≠ xmlP.1 := by
  rcases h with rfl | rfl | rfl <;> decide
theorem Uok.len {u : Str} (h : Uok u) : u.length ≤ 1 := by
  rcases h with rfl | rfl | rfl <;> decide
theorem Uok.len0 {u : Str} (h : Uok u) (h0 : u.length = 0) : u = "" := by
  rcases h with rfl | rfl | rfl
  · rfl
  · exact absurd h0 (by decide)
  · exact absurd h0 (by decide)
theorem ns_clean : ∀ x ∈ nsL, ¬ Uok x.1 ∧ x.1 ≠ "p" := by
  intro x hx
  simp only [nsL, List.mem_cons, List.not_mem_nil, or_false] at hx
  rcases hx with rfl | rfl | rfl | rfl | rfl | rfl | rfl <;> exact ⟨by rintro (h | h | h) <;> exact absurd h (by decide), by decide⟩

theorem mem_addL {ks : List Str} {k x : Str} : x ∈ addL ks k ↔ x ∈ ks ∨ x = k := by
  unfold addL
  split
  · rename_i h
    have h : k ∈ ks := by simpa using h
    exact ⟨.inl, fun q => q.elim id fun e => e ▸ h⟩
  · rw [List.mem_cons]
    exact ⟨fun q => q.symm, fun q => q.symm⟩

theorem scanP : ∀ (DL : List (Str × Str)) (ks : List Str), Dok DL → ("p" : Str) ∉ ks → (scan "p" DL ks).1 = if ppP ∈ DL then some ("p" : Str) else none
  | [], ks, _, _ => rfl
  | x :: r, ks, h, hk => by
    have hr : Dok r := fun y hy => h y (List.mem_cons_of_mem _ hy)
    obtain ⟨u, p⟩ := x
    unfold scan
    rcases h (u, p) List.mem_cons_self with (⟨hu, hp⟩ | hx) | hx
    · have hu : Uok u := hu
      have hp : p = "" := hp
      subst hp
      have hk' : ("p" : Str) ∉ addL ks "" := fun q => (mem_addL.mp q).elim hk (fun e => absurd e (by decide))
      have hne : ppP ≠ (u, sE) := fun e => absurd (show ("p" : Str) = sE from congrArg Prod.snd e) (by decide)
      rw [if_neg (fun q => hu.ne_p q.1), scanP r _ hr hk']
      congr 1
      exact propext ⟨fun q => List.mem_cons_of_mem _ q, fun q => (List.mem_cons.mp q).elim (fun e => absurd e hne) id⟩
    · cases hx
      rw [if_pos ⟨rfl, hk⟩]
      exact (if_pos (show ppP ∈ ppP :: r from List.mem_cons_self)).symm
    · cases hx
      have hk' : ("p" : Str) ∉ addL ks "xml" := fun q => (mem_addL.mp q).elim hk (fun e => absurd e (by decide))
      have hne : ppP ≠ xmlP := by decide
      rw [if_neg (fun q => absurd q.1 (by decide)), scanP r _ hr hk']
      congr 1
      exact propext ⟨fun q => List.mem_cons_of_mem _ q, fun q => (List.mem_cons.mp q).elim (fun e => absurd e hne) id⟩

theorem scanU1 {uri : Str} (hu : Uok uri) : ∀ (DL : List (Str × Str)) (ks : List Str), Dok DL → ("" : Str) ∈ ks → (scan uri DL ks).1 = none ∧ ("" : Str) ∈ (scan uri DL ks).2
  | [], ks, _, hk => ⟨rfl, hk⟩
  | x :: r, ks, h, hk => by
    have hr : Dok r := fun y hy => h y (List.mem_cons_of_mem _ hy)
    obtain ⟨u, p⟩ := x
    have hc : ¬ (u = uri ∧ p ∉ ks) := by
      rintro ⟨e, hp⟩
      rcases h (u, p) List.mem_cons_self with (⟨_, q⟩ | hx) | hx
      · have q : p = "" := q
        subst q; exact hp hk
      · cases hx; exact hu.ne_p e.symm
      · cases hx; exact hu.ne_xml e.symm
    unfold scan
    rw [if_neg hc]
    exact scanU1 hu r _ hr (mem_addL.mpr (.inl hk))
theorem scanU {uri : Str} (hu : Uok uri) : ∀ (DL : List (Str × Str)) (ks : List Str), Dok DL → ("" : Str) ∉ ks →
    (nearD DL = some uri → (scan uri DL ks).1 = some "") ∧ (nearD DL = none → (scan uri DL ks).1 = none ∧ ("" : Str) ∉ (scan uri DL ks).2) ∧ (∀ u, nearD DL = some u → u ≠ uri → (scan uri DL ks).1 = none ∧ ("" : Str) ∈ (scan uri DL ks).2)
  | [], ks, _, hk => ⟨fun h => (nomatch h), fun _ => ⟨rfl, hk⟩, fun u h => (nomatch h)⟩
  | x :: r, ks, h, hk => by
    have hr : Dok r := fun y hy => h y (List.mem_cons_of_mem _ hy)
    obtain ⟨u, p⟩ := x
    have go : p ≠ "" → u ≠ uri → _ := fun hp hne => by
      have hk' : ("" : Str) ∉ addL ks p := fun q => (mem_addL.mp q).elim hk (fun e => hp e.symm)
      have hi := scanU hu r _ hr hk'
      have e1 : nearD ((u, p) :: r) = nearD r := if_neg hp
      have e2 : scan uri ((u, p) :: r) ks = scan uri r (addL ks p) := if_neg fun q => hne q.1
      rw [← e1, ← e2] at hi
      exact hi
    rcases h (u, p) List.mem_cons_self with (⟨_, q⟩ | hx) | hx
    · have q : p = "" := q
      subst q
      have e1 : nearD ((u, sE) :: r) = some u := if_pos rfl
      by_cases e : u = uri
      · subst e
        have e2 : scan u ((u, sE) :: r) ks = (some sE, ks) := if_pos ⟨rfl, hk⟩
        rw [e1, e2]
        exact ⟨fun _ => rfl, fun h => (nomatch h), fun v h hv => absurd (Option.some.inj h).symm hv⟩
      · have e2 : scan uri ((u, sE) :: r) ks = scan uri r (addL ks "") := if_neg fun q => e q.1
        rw [e1, e2]
        exact ⟨fun h => absurd (Option.some.inj h) e, fun h => (nomatch h), fun v h hv => scanU1 hu r _ hr (mem_addL.mpr (.inr rfl))⟩
    · cases hx; exact go (by decide) fun e => hu.ne_p e.symm
    · cases hx; exact go (by decide) fun e => hu.ne_xml e.symm

theorem findU_mem {uri p : Str} : ∀ {NL : List (Str × Str)}, (∀ x ∈ NL, x.1 = uri → x.2 = p) → (uri, p) ∈ NL → findU uri NL = some p
  | [], _, h => by cases h
  | (u, q) :: r, h1, h2 => by
    unfold findU
    split
    · rename_i e
      exact congrArg some (h1 (u, q) List.mem_cons_self e)
    · rename_i e
      rcases List.mem_cons.mp h2 with h | h
      · cases h; exact absurd rfl e
      · exact findU_mem (fun x hx => h1 x (List.mem_cons_of_mem _ hx)) h

theorem qresP {DL NL : List (Str × Str)} {tag : Str} (hD : Dok DL) (hN : Nok NL) (hp : ppP ∈ NL) : qres DL NL "p" tag = some (nameOf "p" tag, if ppP ∈ DL then none else some ppP) := by
  unfold qres
  rw [scanP DL [] hD (by simp)]
  by_cases h : ppP ∈ DL
  · rw [if_pos h, if_pos h]
  · rw [if_neg h, if_neg h]
    dsimp only
    rw [if_neg (fun q => absurd q.1 (by decide)), findU_mem (p := "p") (fun x hx e => ?_) hp]
    · rfl
    · rcases hN x hx with (⟨a, _⟩ | a) | a
      · exact absurd e a.ne_p
      · rw [a]; rfl
      · exact absurd e (ns_clean x a).2
theorem qresU {DL NL : List (Str × Str)} {uri tag : Str} (hu : Uok uri) (hD : Dok DL) (hN : Nok NL) (hp : (nearD DL).getD "" = uri ∨ (uri, ("" : Str)) ∈ NL) : qres DL NL uri tag = some (tag, if (nearD DL).getD "" = uri then none else some (uri, sE)) := by
  obtain ⟨h1, h2, h3⟩ := scanU hu DL [] hD (by simp)
  have hf : (uri, ("" : Str)) ∈ NL → findU uri NL = some "" := findU_mem (fun x hx e => by
    rcases hN x hx with (⟨a, b⟩ | a) | a
    · exact b
    · rw [a] at e; exact absurd e.symm hu.ne_p
    · exact absurd (e ▸ hu) (ns_clean x a).1)
  have hnm : nameOf "" tag = tag := if_pos rfl
  unfold qres
  cases hd0 : nearD DL with
  | none =>
    obtain ⟨a, b⟩ := h2 hd0
    rw [hd0] at hp
    rw [a]
    dsimp only [Option.getD_none] at hp ⊢
    by_cases h0 : uri = ""
    · rw [if_pos ⟨by rw [h0]; rfl, b⟩, if_pos h0.symm]
    · have hl : ¬ uri.length = 0 := fun q => h0 (hu.len0 q)
      rw [if_neg (fun q => hl q.1), if_neg (fun q => h0 q.symm), hf (hp.resolve_left fun q => h0 q.symm)]
      show some (nameOf "" tag, some (uri, sE)) = _
      rw [hnm]
  | some u =>
    rw [hd0] at hp
    dsimp only [Option.getD_some] at hp ⊢
    by_cases h0 : u = uri
    · rw [h1 (h0 ▸ hd0), if_pos h0]
      show some (nameOf "" tag, none) = _
      rw [hnm]
    · obtain ⟨a, b⟩ := h3 u hd0 h0
      rw [a]
      dsimp only
      rw [if_neg (fun q => q.2 b), if_neg h0, hf (hp.resolve_left h0)]
      show some (nameOf "" tag, some (uri, sE)) = _
      rw [hnm]
end Mine
end
section
open PySem PySem.W PyProof.Rows PySem.SeqAt Mine.Ev Mine.Prm Mine.PrF
set_option maxRecDepth 100000
set_option maxHeartbeats 400000
namespace Mine
abbrev sP : Str := "p"
structure Fr where
  uri : Str
  used : Bool
  scope : Str
  told : List (Str × Str)
  d : Nat
  m : Nat
noncomputable def near : List Fr → Str
  | [] => sE
  | f :: r => if f.uri ≠ sP then f.uri else near r
noncomputable def anyU : List Fr → Bool
  | [] => false
  | f :: r => f.used || anyU r
noncomputable def scopeOf : List Fr → Str
  | [] => sE
  | f :: _ => f.scope
noncomputable def Nof (uri : Str) (used : Bool) (r : List Fr) : List (Str × Str) := (if uri ≠ sP ∧ uri ≠ near r then [(uri, sE)] else []) ++ (if used = true ∧ anyU r = false then [ppP] else [])
noncomputable def DLs : List Fr → List (Str × Str)
  | [] => [xmlP]
  | f :: r => Nof f.uri f.used r ++ DLs r
noncomputable def NLs (t0 : List (Str × Str)) : List Fr → List (Str × Str)
  | [] => t0 ++ nsL
  | f :: r => f.told ++ NLs t0 r
noncomputable def Tok (l : List (Str × Str)) : Prop := ∀ x ∈ l, Uok x.1 ∧ x.2 = sE
noncomputable def Uall (u : Str) : Prop := Uok u ∨ u = sP
noncomputable def Good (t0 : List (Str × Str)) : List Fr → Prop
  | [] => ppP ∈ t0 ∧ ∀ x ∈ t0, PairOk x
  | f :: r => Good t0 r ∧ Uall f.uri ∧ Uok f.scope ∧ (f.uri ≠ sP → f.scope = f.uri) ∧ (f.uri = sP → f.used = true) ∧ Tok f.told ∧ ((f.scope, sE) ∈ NLs t0 r ∨ (f.scope = sE ∧ ∀ g ∈ r, g.scope = sE))

theorem Uall.cases {u : Str} (h : Uall u) (hp : u ≠ sP) : Uok u := h.resolve_right hp
theorem Good.t0 {t0 : List (Str × Str)} : ∀ {fs : List Fr}, Good t0 fs → ppP ∈ t0 ∧ ∀ x ∈ t0, PairOk x
  | [], h => h
  | _ :: _, h => Good.t0 h.1
theorem near_all {t0 : List (Str × Str)} : ∀ {fs : List Fr}, Good t0 fs → Uok (near fs)
  | [], _ => .inl rfl
  | f :: r, h => by
    unfold near
    split
    · rename_i hp; exact h.2.1.cases hp
    · exact near_all h.1
theorem Nof_ok {t0 : List (Str × Str)} {r : List Fr} {uri : Str} {used : Bool} (hu : Uall uri) : ∀ x ∈ Nof uri used r, PairOk x := by
  intro x hx
  unfold Nof at hx
  rcases List.mem_append.mp hx with h | h
  · split at h
    · rename_i hc
      rw [List.mem_singleton] at h; subst h
      exact .inl ⟨hu.cases hc.1, rfl⟩
    · cases h
  · split at h
    · rw [List.mem_singleton] at h; exact .inr h
    · cases h
theorem DLs_ok {t0 : List (Str × Str)} : ∀ {fs : List Fr}, Good t0 fs → Dok (DLs fs)
  | [], _ => fun x hx => .inr (List.mem_singleton.mp hx)
  | f :: r, h => fun x hx => by
    rcases List.mem_append.mp hx with q | q
    · exact .inl (Nof_ok (t0 := t0) h.2.1 x q)
    · exact DLs_ok h.1 x q
theorem NLs_ok {t0 : List (Str × Str)} : ∀ {fs : List Fr}, Good t0 fs → Nok (NLs t0 fs)
  | [], h => fun x hx => (List.mem_append.mp hx).elim (fun q => .inl (h.2 x q)) .inr
  | f :: r, h => fun x hx => by
    rcases List.mem_append.mp hx with q | q
    · exact .inl (.inl (h.2.2.2.2.2.1 x q))
    · exact NLs_ok h.1 x q
theorem NLs_pp {t0 : List (Str × Str)} : ∀ {fs : List Fr}, Good t0 fs → ppP ∈ NLs t0 fs
  | [], h => List.mem_append_left _ h.1
  | _ :: _, h => List.mem_append_right _ (NLs_pp h.1)
theorem nearD_app {a b : List (Str × Str)} : nearD (a ++ b) = (nearD a).or (nearD b) := by
  induction a with
  | nil => rfl
  | cons x r ih =>
    show (if x.2 = "" then some x.1 else nearD (r ++ b)) = (if x.2 = "" then some x.1 else nearD r).or (nearD b)
    split
    · rfl
    · exact ih
theorem nearD_Nof {uri : Str} {used : Bool} {r : List Fr} : nearD (Nof uri used r) = if uri ≠ sP ∧ uri ≠ near r then some uri else none := by
  unfold Nof
  have h2 : nearD (if used = true ∧ anyU r = false then [ppP] else []) = none := by
    split
    · show (if ppP.2 = "" then some ppP.1 else nearD []) = none
      rw [if_neg (by decide)]; rfl
    · rfl
  rw [nearD_app, h2]
  by_cases h : uri ≠ sP ∧ uri ≠ near r
  · rw [if_pos h, if_pos h]; rfl
  · rw [if_neg h, if_neg h]; rfl
theorem near_eq {t0 : List (Str × Str)} : ∀ {fs : List Fr}, Good t0 fs → (nearD (DLs fs)).getD "" = near fs
  | [], _ => rfl
  | f :: r, h => by
    have ih := near_eq h.1
    unfold DLs near
    rw [nearD_app, nearD_Nof]
    by_cases hp : f.uri ≠ sP
    · rw [if_pos hp]
      by_cases hn : f.uri = near r
      · rw [if_neg (fun q => q.2 hn)]
        show (nearD (DLs r)).getD "" = _
        rw [ih, hn]
      · rw [if_pos ⟨hp, hn⟩]; rfl
    · rw [if_neg hp, if_neg (fun q => hp q.1)]
      exact ih
theorem pp_Nof {uri : Str} {used : Bool} {r : List Fr} : ppP ∈ Nof uri used r ↔ (used = true ∧ anyU r = false) := by
  unfold Nof
  rw [List.mem_append]
  constructor
  · rintro (h | h)
    · split at h
      · rw [List.mem_singleton] at h
        exact absurd (show sP = sE from congrArg Prod.snd h) (by decide)
      · cases h
    · split at h
      · assumption
      · cases h
  · intro h
    exact .inr (by rw [if_pos h]; exact List.mem_singleton.mpr rfl)
theorem pp_iff : ∀ {fs : List Fr}, ppP ∈ DLs fs ↔ anyU fs = true
  | [] => ⟨fun h => absurd (List.mem_singleton.mp h) (by decide), fun h => (nomatch h)⟩
  | f :: r => by
    show ppP ∈ Nof f.uri f.used r ++ DLs r ↔ (f.used || anyU r) = true
    rw [List.mem_append, pp_Nof, pp_iff]
    cases f.used <;> cases anyU r <;> simp
theorem near_empty {t0 : List (Str × Str)} : ∀ {fs : List Fr}, Good t0 fs → (∀ g ∈ fs, g.scope = sE) → near fs = sE
  | [], _, _ => rfl
  | f :: r, h, ha => by
    unfold near
    split
    · rename_i hp
      rw [← h.2.2.2.1 hp]; exact ha f List.mem_cons_self
    · exact near_empty h.1 fun g hg => ha g (List.mem_cons_of_mem _ hg)
/-- the scope in force is told, or nothing was -/
theorem told_or {t0 : List (Str × Str)} {fs : List Fr} (h : Good t0 fs) : (scopeOf fs, sE) ∈ NLs t0 fs ∨ (scopeOf fs = sE ∧ ∀ g ∈ fs, g.scope = sE) := by
  cases fs with
  | nil => exact .inr ⟨rfl, fun g hg => by cases hg⟩
  | cons f r =>
    rcases h.2.2.2.2.2.2 with q | ⟨q, q'⟩
    · exact .inl (List.mem_append_right _ q)
    · refine .inr ⟨q, fun g hg => ?_⟩
      rcases List.mem_cons.mp hg with rfl | hg
      · exact q
      · exact q' g hg
theorem scope_ok {t0 : List (Str × Str)} {fs : List Fr} (h : Good t0 fs) : Uok (scopeOf fs) := by
  cases fs with
  | nil => exact .inl rfl
  | cons f r => exact h.2.2.1

/-- what is told to the level on top -/
noncomputable def tellT (t0 : List (Str × Str)) (fs : List Fr) (x : Str × Str) : List (Str × Str) := match fs with
  | [] => t0 ++ [x]
  | _ => t0
noncomputable def tellF (fs : List Fr) (x : Str × Str) : List Fr := match fs with
  | [] => []
  | f :: r => { f with told := f.told ++ [x] } :: r
theorem tell_good {t0 : List (Str × Str)} {fs : List Fr} {u : Str} (hu : Uok u) (h : Good t0 fs) : Good (tellT t0 fs (u, sE)) (tellF fs (u, sE)) := by
  cases fs with
  | nil => exact ⟨List.mem_append_left _ h.1, fun x hx => (List.mem_append.mp hx).elim (h.2 x) fun q => .inl (by rw [List.mem_singleton] at q; subst q; exact ⟨hu, rfl⟩)⟩
  | cons f r =>
    obtain ⟨a, b, c, d, e, g, i⟩ := h
    exact ⟨a, b, c, d, e, fun x hx => (List.mem_append.mp hx).elim (g x) fun q => by rw [List.mem_singleton] at q; subst q; exact ⟨hu, rfl⟩, i⟩
theorem tell_mem {t0 : List (Str × Str)} {fs : List Fr} {x : Str × Str} : x ∈ NLs (tellT t0 fs x) (tellF fs x) := by
  cases fs with
  | nil => exact List.mem_append_left _ (List.mem_append_right _ (List.mem_singleton.mpr rfl))
  | cons f r => exact List.mem_append_left _ (List.mem_append_right _ (List.mem_singleton.mpr rfl))
theorem tell_near {fs : List Fr} {x : Str × Str} : near (tellF fs x) = near fs := by cases fs <;> rfl
theorem tell_any {fs : List Fr} {x : Str × Str} : anyU (tellF fs x) = anyU fs := by cases fs <;> rfl
theorem tell_len {t0 : List (Str × Str)} {fs : List Fr} {x : Str × Str} : (NLs (tellT t0 fs x) (tellF fs x)).length = (NLs t0 fs).length + 1 := by
  cases fs with
  | nil => show (t0 ++ [x] ++ nsL).length = (t0 ++ nsL).length + 1; simp only [List.length_append, List.length_singleton]; lia
  | cons f r => show (f.told ++ [x] ++ NLs t0 r).length = (f.told ++ NLs t0 r).length + 1; simp only [List.length_append, List.length_singleton]; lia
theorem DLs_len : ∀ (fs : List Fr), (DLs fs).length ≤ 2 * fs.length + 1
  | [] => by decide
  | f :: r => by
    have := DLs_len r
    have h : (Nof f.uri f.used r).length ≤ 2 := by unfold Nof; split <;> split <;> simp
    show (Nof f.uri f.used r ++ DLs r).length ≤ 2 * (r.length + 1) + 1
    rw [List.length_append]; lia
theorem pair_len {x : Str × Str} (h : PairOk x) : x.2.length ≤ 1000 := by
  rcases h with ⟨_, h⟩ | rfl
  · rw [h]; decide
  · decide
theorem DLs_sz {t0 : List (Str × Str)} {fs : List Fr} (h : Good t0 fs) : ∀ x ∈ DLs fs, x.2.length ≤ 1000 := fun x hx => by
  rcases DLs_ok h x hx with q | q
  · exact pair_len q
  · rw [q]; decide
theorem nsL_sz : ∀ x ∈ nsL, x.2.length ≤ 1000 := by decide
theorem NLs_sz {t0 : List (Str × Str)} {fs : List Fr} (h : Good t0 fs) : ∀ x ∈ NLs t0 fs, x.2.length ≤ 1000 := fun x hx => by
  rcases NLs_ok h x hx with q | q
  · exact pair_len q
  · exact nsL_sz x q

/-- the names a start tag needs -/
theorem q_start {t0 : List (Str × Str)} {fs : List Fr} {uri tag : Str} (h : Good t0 fs) (hu : Uok uri) (ht : near fs = uri ∨ (uri, sE) ∈ NLs t0 fs) : qres (DLs fs) (NLs t0 fs) uri tag = some (tag, if uri ≠ near fs then some (uri, sE) else none) := by
  have := qresU (tag := tag) hu (DLs_ok h) (NLs_ok h) (by rw [near_eq h]; exact ht)
  rw [this, near_eq h]
  by_cases e : near fs = uri
  · rw [if_pos e, if_neg (fun q => q e.symm)]
  · rw [if_neg e, if_pos (fun q => e q.symm)]
theorem q_startP {t0 : List (Str × Str)} {fs : List Fr} {tag : Str} {N : List (Str × Str)} (h : Good t0 fs) (hN : ∀ x ∈ N, PairOk x) : qres (N ++ DLs fs) (NLs t0 fs) sP tag = some (nameOf "p" tag, if ppP ∈ N ∨ anyU fs = true then none else some ppP) := by
  have hD : Dok (N ++ DLs fs) := fun x hx => (List.mem_append.mp hx).elim (fun q => .inl (hN x q)) (DLs_ok h x)
  have := qresP (tag := tag) hD (NLs_ok h) (NLs_pp h)
  rw [this]
  congr 3
  rw [List.mem_append, pp_iff]
theorem q_end {t0 : List (Str × Str)} {f : Fr} {r : List Fr} {tag : Str} (h : Good t0 (f :: r)) : qres (DLs (f :: r)) (NLs t0 (f :: r)) f.uri tag = some (if f.uri = sP then nameOf "p" tag else tag, none) := by
  by_cases hp : f.uri = sP
  · have := q_startP (tag := tag) (N := []) h (fun x hx => by cases hx)
    rw [hp, if_pos rfl]
    rw [List.nil_append] at this
    rw [this, if_pos (.inr (by show (f.used || anyU r) = true; rw [h.2.2.2.2.1 hp]; rfl))]
  · have hn : near (f :: r) = f.uri := if_pos hp
    rw [q_start h (h.2.1.cases hp) (.inl hn), if_neg hp, if_neg (fun q => q hn.symm)]
end Mine
end
section
open PySem PySem.W PyProof.Rows PySem.SeqAt Mine.Ev Mine.Prm Mine.PrF
set_option maxRecDepth 100000
set_option maxHeartbeats 400000
namespace Mine
noncomputable def cat : List Str → Str
  | [] => Str.empty
  | x :: r => x ++ cat r
theorem cat_app : ∀ (a b : List Str), cat (a ++ b) = cat a ++ cat b
  | [], b => (Str.empty_append _).symm
  | x :: a, b => by
    show x ++ cat (a ++ b) = x ++ cat a ++ cat b
    rw [cat_app a b, Str.append_assoc]
theorem cat_one (x : Str) : cat [x] = x := Str.append_empty x
theorem join_cat : ∀ (l : List Str), Str.join Str.empty l = cat l
  | [] => rfl
  | [x] => (cat_one x).symm
  | x :: y :: r => by
    show x ++ Str.empty ++ Str.join Str.empty (y :: r) = x ++ cat (y :: r)
    rw [join_cat (y :: r), Str.append_empty]
theorem tjoin_cat (l : List Str) : Txt.join Str.empty l = cat l := (StrLaws.glued_eq_join _ l).trans (join_cat l)
theorem fold_len : ∀ (l : List Str) (a : Nat), l.foldl (fun n x => n + x.length + Str.empty.length) a = a + (cat l).length
  | [], a => rfl
  | x :: r, a => by
    show r.foldl _ (a + x.length + 0) = a + (x ++ cat r).length
    rw [fold_len r, Str.length_append]; lia
theorem joinOk {l : List Str} (h : (cat l).length ≤ 100000) : JoinOk Str.empty l = true := by
  unfold JoinOk
  have e : l.toArray.foldl (fun n x => n + x.length + Str.empty.length) 0 = l.foldl (fun n x => n + x.length + Str.empty.length) 0 := by
    rw [List.foldl_toArray]
  have e2 : l.toArray.foldl (fun n x => n + x.length + Str.empty.length) 0 = (cat l).length := by
    rw [e, fold_len, Nat.zero_add]
  rw [e2]
  unfold Builtin.Str.tooLong
  have : ¬ ((cat l).length > sizeLine) := Nat.not_lt.mpr (Nat.le_trans h (by decide))
  simp [this]

noncomputable def tagOf (u : Str) : Str := if u = sE then "a" else "{" ++ u ++ "}a"
noncomputable def qx : Str := "{p}x"
theorem tag_ok {u : Str} (h : Uall u) : QArg (tagOf u) u "a" := by
  rcases h with (rfl | rfl | rfl) | rfl
  · exact ⟨by decide, .inr ⟨by decide, rfl, rfl⟩, by decide, by decide⟩
  · exact ⟨by decide, .inl ⟨by kernel_rfl, by kernel_rfl⟩, by decide, by decide⟩
  · exact ⟨by decide, .inl ⟨by kernel_rfl, by kernel_rfl⟩, by decide, by decide⟩
  · exact ⟨by decide, .inl ⟨by kernel_rfl, by kernel_rfl⟩, by decide, by decide⟩
theorem qx_ok : QArg qx "p" "x" := ⟨by decide, .inl ⟨by kernel_rfl, by kernel_rfl⟩, by decide, by decide⟩
theorem tag_ne {u : Str} (h : Uall u) : tagOf u ≠ qx := by
  rcases h with (rfl | rfl | rfl) | rfl <;> decide
theorem tag_sort {u : Str} (h : Uall u) : sortK nameKey [qx, tagOf u] = [tagOf u, qx] := by
  rcases h with (rfl | rfl | rfl) | rfl <;> kernel_rfl
theorem tag_nodup {u : Str} (h : Uall u) : ([qx, tagOf u].map nameKey).Nodup := by
  have : nameKey qx ≠ nameKey (tagOf u) := by
    rcases h with (rfl | rfl | rfl) | rfl <;> exact of_decide_eq_true (by kernel_rfl)
  simpa using this
theorem space_ne : ([(qx, .str "1")] : List (Str × V)).lookup spaceN = none := by kernel_rfl

/-- the four shapes of what a start declares -/
inductive Sh : List (Str × Str) → Prop
  | a : Sh []
  | b {u : Str} : Uok u → Sh [(u, sE)]
  | c : Sh [ppP]
  | d {u : Str} : Uok u → Sh [(u, sE), ppP]
theorem Nof_sh {uri : Str} {used : Bool} {r : List Fr} (h : Uall uri) : Sh (Nof uri used r) := by
  unfold Nof
  split
  · rename_i hc
    split
    · exact .d (h.cases hc.1)
    · exact .b (h.cases hc.1)
  · split
    · exact .c
    · exact .a
theorem sh_nok {N : List (Str × Str)} (h : Sh N) : NOk N := by
  rcases h with _ | (rfl | rfl | rfl) | _ | (rfl | rfl | rfl) <;> exact ⟨by decide, by decide, ⟨by kernel_rfl, leR (by kernel_rfl), of_decide_eq_true (by kernel_rfl), by kernel_rfl⟩⟩
noncomputable def axs (b : Bool) : List (Str × Str) := if b then [("p:x", "1")] else []
theorem sh_lok {N : List (Str × Str)} (h : Sh N) (b : Bool) : LOk (N.map alOf ++ axs b) := by
  cases b <;> rcases h with _ | (rfl | rfl | rfl) | _ | (rfl | rfl | rfl) <;> exact ⟨by decide, by unfold cleanS; decide, by kernel_rfl⟩

noncomputable def d1 (uri : Str) : Str := "<" ++ (if uri = sP then "p:a" else "a")
noncomputable def d2 (uri : Str) (r : List Fr) : Str := if uri ≠ sP ∧ uri ≠ near r then " xmlns=\"" ++ uri ++ "\"" else ""
noncomputable def d3 (used : Bool) (r : List Fr) : Str := if used = true ∧ anyU r = false then " xmlns:p=\"p\"" else ""
noncomputable def d4 (b : Bool) : Str := (if b then " p:x=\"1\"" else "") ++ ">"
noncomputable def aOutS (L : List (Str × Str)) : List Str := if L = [] then [] else [Txt.join Str.empty (L.map atx)]
theorem aOut_eq (L : List (Str × Str)) : aOut L = (aOutS L).map .str := by
  unfold aOut aOutS; split <;> rfl
theorem aOutS_cat (L : List (Str × Str)) : cat (aOutS L) = cat (L.map atx) := by
  unfold aOutS
  split
  · rename_i h; rw [h]; rfl
  · rw [cat_one, tjoin_cat]
theorem start_attrs {uri : Str} {used b : Bool} {r : List Fr} (h : Uall uri) : cat (((Nof uri used r).map alOf ++ axs b).map atx) ++ ">" = d2 uri r ++ (d3 used r ++ d4 b) := by
  have key : ∀ {N1 N2 : List (Str × Str)} {x y : Str}, cat ((N1.map alOf).map atx) = x → cat ((N2.map alOf).map atx) = y → cat (((N1 ++ N2).map alOf ++ axs b).map atx) ++ ">" = x ++ (y ++ d4 b) := by
    intro N1 N2 x y h1 h2
    rw [List.map_append, List.map_append, List.map_append, cat_app, cat_app, h1, h2, Str.append_assoc, Str.append_assoc]
    congr 2
    cases b <;> kernel_rfl
  unfold Nof d2 d3
  refine key ?_ ?_
  · by_cases hc : uri ≠ sP ∧ uri ≠ near r
    · rw [if_pos hc, if_pos hc]
      rcases h.cases hc.1 with rfl | rfl | rfl <;> kernel_rfl
    · rw [if_neg hc, if_neg hc]; rfl
  · by_cases hc : used = true ∧ anyU r = false
    · rw [if_pos hc, if_pos hc]; kernel_rfl
    · rw [if_neg hc, if_neg hc]; rfl
theorem d2_len {uri : Str} {r : List Fr} (h : Uall uri) : (d2 uri r).length ≤ 20 := by
  unfold d2
  split
  · rcases h with (rfl | rfl | rfl) | rfl <;> decide
  · decide
theorem d3_len {used : Bool} {r : List Fr} : (d3 used r).length ≤ 20 := by
  unfold d3; split <;> decide
theorem d4_len {b : Bool} : (d4 b).length ≤ 20 := by cases b <;> decide
theorem d1_len {uri : Str} : (d1 uri).length ≤ 20 := by unfold d1; split <;> decide
end Mine
end
section
open PySem PySem.W PyProof.Rows PySem.SeqAt Mine.Ev Mine.Prm Mine.PrF
set_option maxRecDepth 100000
set_option maxHeartbeats 400000
namespace Mine
variable {s : S6} {G G' : Nat → AObj} {n n' : Nat} {P : Params} {sa : Addr} {is : List Int}
abbrev sT : Str := "t"
structure PS where
  fs : List Fr
  t0 : List (Str × Str)
  outl : List Str
  dat : List Str
noncomputable def PS.txt (p : PS) : Str := cat p.outl ++ cat p.dat
noncomputable def unpv : V → Option (Str × Str)
  | .tup [.str a, .str b] => some (a, b)
  | _ => none
theorem unpv_map (l : List (Str × Str)) : (l.map pv).filterMap unpv = l := by
  rw [List.filterMap_map]
  exact (List.filterMap_eq_map (f := id)).symm ▸ List.map_id l
noncomputable def lvl (G : Nat → AObj) (j : Nat) : List (Str × Str) := match G j with
  | .list xs => xs.filterMap unpv
  | _ => []
theorem lvl_of {j : Nat} {l : List (Str × Str)} (h : G j = .list (l.map pv)) : lvl G j = l := by
  unfold lvl; rw [h]; exact unpv_map l
noncomputable def FrH (G : Nat → AObj) : Nat → List Fr → Prop
  | _, [] => True
  | b, f :: r => 13 ≤ f.d ∧ f.d < f.m ∧ f.m < b ∧ G f.d = .list ((Nof f.uri f.used r).map pv) ∧ G f.m = .list (f.told.map pv) ∧ FrH G f.d r
theorem FrH.mono {b b' : Nat} : ∀ {fs : List Fr}, FrH G b fs → b ≤ b' → FrH G b' fs
  | [], _, _ => trivial
  | _ :: _, ⟨a, c, d, e⟩, h => ⟨a, c, Nat.lt_of_lt_of_le d h, e⟩
theorem FrH.congr {b : Nat} : ∀ {fs : List Fr}, FrH G b fs → (∀ i, 13 ≤ i → i < b → G' i = G i) → FrH G' b fs
  | [], _, _ => trivial
  | f :: r, ⟨a, c, d, e, g, i⟩, h => ⟨a, c, d, (h _ a (by lia)).trans e, (h _ (by lia) d).trans g, i.congr fun j h1 h2 => h j h1 (by lia)⟩
theorem FrH.memD {b : Nat} : ∀ {fs : List Fr}, FrH G b fs → ∀ j ∈ fs.map Fr.d, 13 ≤ j ∧ j < b ∧ G j = .list ((lvl G j).map pv)
  | [], _, j, h => by cases h
  | f :: r, ⟨a, c, d, e, g, i⟩, j, h => by
    rcases List.mem_cons.mp h with rfl | h
    · exact ⟨a, by lia, by rw [lvl_of e]; exact e⟩
    · obtain ⟨p, q, t⟩ := i.memD j h
      exact ⟨p, by lia, t⟩
theorem FrH.memM {b : Nat} : ∀ {fs : List Fr}, FrH G b fs → ∀ j ∈ fs.map Fr.m, 13 ≤ j ∧ j < b ∧ G j = .list ((lvl G j).map pv)
  | [], _, j, h => by cases h
  | f :: r, ⟨a, c, d, e, g, i⟩, j, h => by
    rcases List.mem_cons.mp h with rfl | h
    · exact ⟨by lia, d, by rw [lvl_of g]; exact g⟩
    · obtain ⟨p, q, t⟩ := i.memM j h
      exact ⟨p, by lia, t⟩
theorem FrH.walkD {b : Nat} : ∀ {fs : List Fr}, FrH G b fs → (fs.map Fr.d).flatMap (lvl G) ++ [xmlP] = DLs fs
  | [], _ => rfl
  | f :: r, ⟨a, c, d, e, g, i⟩ => by
    show (lvl G f.d ++ (r.map Fr.d).flatMap (lvl G)) ++ [xmlP] = Nof f.uri f.used r ++ DLs r
    rw [lvl_of e, List.append_assoc, i.walkD]
theorem FrH.walkM {b : Nat} {t0 : List (Str × Str)} : ∀ {fs : List Fr}, FrH G b fs → (fs.map Fr.m).flatMap (lvl G) ++ (t0 ++ nsL) = NLs t0 fs
  | [], _ => rfl
  | f :: r, ⟨a, c, d, e, g, i⟩ => by
    show (lvl G f.m ++ (r.map Fr.m).flatMap (lvl G)) ++ (t0 ++ nsL) = f.told ++ NLs t0 r
    rw [lvl_of g, List.append_assoc, i.walkM]

noncomputable def didsOf (fs : List Fr) : List Nat := 6 :: (fs.map Fr.d).reverse
noncomputable def nidsOf (fs : List Fr) : List Nat := 9 :: 10 :: (fs.map Fr.m).reverse
structure Rel (p : PS) (c : Nat) (s : S6) (G : Nat → AObj) (n : Nat) : Prop where
  out : s.out = p.outl.map .str
  dat : s.dat = p.dat.map .str
  decl : s.decl = (didsOf p.fs).map .ref
  ns : s.ns = (nidsOf p.fs).map .ref
  pres : s.pres = List.replicate (p.fs.length + 1) (.bool false)
  n13 : 13 ≤ n
  g6 : G 6 = .list ([xmlP].map pv)
  g9 : G 9 = .list (nsL.map pv)
  g10 : G 10 = .list (p.t0.map pv)
  fr : FrH G n p.fs
  good : Good p.t0 p.fs
  dt : ∃ j, p.dat = List.replicate j sT
  seen : p.dat ≠ [] → s.seen = true
  z0 : p.dat.length ≤ c
  z1 : p.outl.length + p.dat.length ≤ 4 * c
  z2 : p.fs.length ≤ c
  z3 : (NLs p.t0 p.fs).length ≤ c + 10
  z4 : p.txt.length ≤ 100 * c
variable {p : PS} {c : Nat}

theorem Rel.grow (R : Rel p c s G n) (hn : n ≤ n') (hG : ∀ i, i < n → G' i = G i) : Rel p c s G' n' :=
  { R with
    n13 := by have := R.n13; lia
    g6 := (hG 6 (by have := R.n13; lia)).trans R.g6
    g9 := (hG 9 (by have := R.n13; lia)).trans R.g9
    g10 := (hG 10 (by have := R.n13; lia)).trans R.g10
    fr := (R.fr.congr fun i _ h => hG i h).mono hn }
theorem Rel.more {c' : Nat} (R : Rel p c s G n) (h : c ≤ c') : Rel p c' s G n :=
  { R with
    z0 := by have := R.z0; lia
    z1 := by have := R.z1; lia
    z2 := by have := R.z2; lia
    z3 := by have := R.z3; lia
    z4 := by have := R.z4; lia }
theorem Rel.path {xs : List V} (R : Rel p c s G n) : Rel p c { s with path := xs } G n :=
  { R with out := R.out, dat := R.dat, decl := R.decl, ns := R.ns, pres := R.pres, seen := R.seen }
theorem Rel.SD (R : Rel p c s G n) : Stk G n s.decl (didsOf p.fs) (lvl G) := ⟨R.decl, fun j hj => by
  rcases List.mem_cons.mp hj with rfl | hj
  · exact ⟨.inl rfl, by have := R.n13; lia, by rw [lvl_of R.g6]; exact R.g6⟩
  · obtain ⟨a, b, h⟩ := R.fr.memD j (List.mem_reverse.mp hj)
    exact ⟨.inr (.inr (.inr a)), b, h⟩⟩
theorem Rel.SN (R : Rel p c s G n) : Stk G n s.ns (nidsOf p.fs) (lvl G) := ⟨R.ns, fun j hj => by
  rcases List.mem_cons.mp hj with rfl | hj
  · exact ⟨.inr (.inl rfl), by have := R.n13; lia, by rw [lvl_of R.g9]; exact R.g9⟩
  rcases List.mem_cons.mp hj with rfl | hj
  · exact ⟨.inr (.inr (.inl rfl)), by have := R.n13; lia, by rw [lvl_of R.g10]; exact R.g10⟩
  · obtain ⟨a, b, h⟩ := R.fr.memM j (List.mem_reverse.mp hj)
    exact ⟨.inr (.inr (.inr a)), b, h⟩⟩
theorem Rel.WD (R : Rel p c s G n) : walkL (didsOf p.fs) (lvl G) = DLs p.fs := by
  unfold walkL didsOf
  rw [List.reverse_cons, List.reverse_reverse, List.flatMap_append, ← R.fr.walkD]
  congr 1
  show lvl G 6 ++ [] = _
  rw [lvl_of R.g6]; rfl
theorem Rel.WN (R : Rel p c s G n) : walkL (nidsOf p.fs) (lvl G) = NLs p.t0 p.fs := by
  unfold walkL nidsOf
  rw [List.reverse_cons, List.reverse_cons, List.reverse_reverse, List.flatMap_append, List.flatMap_append, List.append_assoc, ← R.fr.walkM]
  congr 1
  show (lvl G 10 ++ []) ++ (lvl G 9 ++ []) = _
  rw [lvl_of R.g10, lvl_of R.g9, List.append_nil, List.append_nil]
theorem Rel.hz1 (R : Rel p c s G n) (hc : c ≤ 400) : (didsOf p.fs).length ≤ 900 ∧ (walkL (didsOf p.fs) (lvl G)).length ≤ 900 ∧ ∀ q ∈ walkL (didsOf p.fs) (lvl G), q.2.length ≤ 1000 := by
  rw [R.WD]
  have h := DLs_len p.fs
  have := R.z2
  exact ⟨by unfold didsOf; rw [List.length_cons, List.length_reverse, List.length_map]; lia, by lia, DLs_sz R.good⟩
theorem Rel.hz2 (R : Rel p c s G n) (hc : c ≤ 400) : (nidsOf p.fs).length ≤ 900 ∧ (walkL (nidsOf p.fs) (lvl G)).length ≤ 900 ∧ ∀ q ∈ walkL (nidsOf p.fs) (lvl G), q.2.length ≤ 1000 := by
  rw [R.WN]
  have h := R.z3
  have := R.z2
  exact ⟨by unfold nidsOf; rw [List.length_cons, List.length_cons, List.length_reverse, List.length_map]; lia, by lia, NLs_sz R.good⟩

theorem rep_len : ∀ (j : Nat), (cat (List.replicate j sT)).length = j
  | 0 => rfl
  | j + 1 => by
    show (("t" : Str) ++ cat (List.replicate j sT)).length = _
    rw [Str.length_append, rep_len j]; show 1 + j = j + 1; lia
theorem rep_all : ∀ (j : Nat), ∀ x ∈ (cat (List.replicate j sT)).cps.toList, x = 116
  | 0, x, h => by cases h
  | j + 1, x, h => by
    have e : (cat (List.replicate (j + 1) sT)).cps.toList = (("t" : Str).cps.toList) ++ (cat (List.replicate j sT)).cps.toList := by
      show (("t" : Str) ++ cat (List.replicate j sT)).cps.toList = _
      rw [Str.cps_append, Array.toList_append]
    rw [e] at h
    rcases List.mem_append.mp h with h | h
    · have : ("t" : Str).cps.toList = [116] := rfl
      rw [this, List.mem_singleton] at h; exact h
    · exact rep_all j x h
theorem Rel.datOk (R : Rel p c s G n) (hc : c ≤ 400) : DatOk s p.dat := by
  have z1 := R.z1
  have z0 := R.z0
  refine ⟨R.dat, by lia, by rw [R.out, List.length_map]; lia, fun hne => ?_⟩
  obtain ⟨j, hj⟩ := R.dt
  have hlen : (cat p.dat).length = j := by rw [hj]; exact rep_len j
  have hl2 : p.dat.length = j := by rw [hj, List.length_replicate]
  have h0 : j ≠ 0 := fun e => hne (by rw [hj, e]; rfl)
  rw [tjoin_cat]
  refine ⟨R.seen hne, joinOk (by lia), by lia, Nat.le_trans (show (cat p.dat).length ≤ 100000 by lia) (by decide), fun x hx => ?_⟩
  rw [hj] at hx
  rw [rep_all j x hx]; decide

noncomputable def flP (p : PS) : PS := if p.dat = [] then p else { p with outl := p.outl ++ [cat p.dat], dat := [] }
theorem flP_fs (p : PS) : (flP p).fs = p.fs := by unfold flP; split <;> rfl
theorem flP_t0 (p : PS) : (flP p).t0 = p.t0 := by unfold flP; split <;> rfl
theorem flP_dat (p : PS) : (flP p).dat = [] := by unfold flP; split <;> first | assumption | rfl
theorem flP_txt (p : PS) : (flP p).txt = p.txt := by
  unfold flP
  split
  · rfl
  · show cat (p.outl ++ [cat p.dat]) ++ Str.empty = cat p.outl ++ cat p.dat
    rw [Str.append_empty, cat_app, cat_one]
theorem flP_len (p : PS) : (flP p).outl.length + (flP p).dat.length ≤ p.outl.length + p.dat.length := by
  unfold flP
  split
  · exact Nat.le_refl _
  · rename_i h
    have : 0 < p.dat.length := List.length_pos_iff.mpr h
    show (p.outl ++ [cat p.dat]).length + 0 ≤ _
    rw [List.length_append, List.length_singleton]; lia
theorem Rel.flush (R : Rel p c s G n) : Rel (flP p) c (flS s p.dat) G n where
  out := by
    unfold flP flS
    split
    · exact R.out
    · show s.out ++ [.str (Txt.join Str.empty p.dat)] = (p.outl ++ [cat p.dat]).map .str
      rw [R.out, tjoin_cat, List.map_append]; rfl
  dat := by
    unfold flP flS
    split
    · exact R.dat
    · rfl
  decl := by rw [flS_decl, flP_fs]; exact R.decl
  ns := by rw [flS_ns, flP_fs]; exact R.ns
  pres := by rw [flS_pres, flP_fs]; exact R.pres
  n13 := R.n13
  g6 := R.g6
  g9 := R.g9
  g10 := by rw [flP_t0]; exact R.g10
  fr := by rw [flP_fs]; exact R.fr
  good := by rw [flP_fs, flP_t0]; exact R.good
  dt := ⟨0, flP_dat p⟩
  seen := fun h => absurd (flP_dat p) h
  z0 := by rw [flP_dat]; exact Nat.zero_le _
  z1 := Nat.le_trans (flP_len p) R.z1
  z2 := by rw [flP_fs]; exact R.z2
  z3 := by rw [flP_fs, flP_t0]; exact R.z3
  z4 := by rw [flP_txt]; exact R.z4
theorem flS_seen (s : S6) (l : List Str) : (flS s l).seen = s.seen := by unfold flS; split <;> rfl
theorem flS_path (s : S6) (l : List Str) : (flS s l).path = s.path := by unfold flS; split <;> rfl

-- data
theorem op_data {k : Nat} (R : Rel p c s G n) (hc : c ≤ 400) (hs : s.seen = true) :
    ∃ p' s', Ev (pe6 P sa is) (k + 12) (.c (.mt 97 (.ref 4)) [.str "t"] [] (mk6 s G n)) (.v .none (mk6 s' G n)) ∧ Rel p' (c + 1) s' G n ∧ p'.fs = p.fs ∧ p'.txt = p.txt ++ "t" ∧ s'.seen = true ∧ s'.path = s.path := by
  have z1 := R.z1
  have ht : (PS.mk p.fs p.t0 p.outl (p.dat ++ [sT])).txt = p.txt ++ "t" := by
    show cat p.outl ++ cat (p.dat ++ [sT]) = cat p.outl ++ cat p.dat ++ "t"
    rw [cat_app, cat_one, Str.append_assoc]
  refine ⟨⟨p.fs, p.t0, p.outl, p.dat ++ [sT]⟩, { s with dat := s.dat ++ [.str "t"] }, t_data (by rw [R.dat, List.length_map]; exact Nat.lt_of_le_of_lt (show p.dat.length ≤ 10000 by lia) (by decide)), { R with out := R.out, dat := ?_, decl := R.decl, ns := R.ns, pres := R.pres, dt := ?_, seen := fun _ => hs, z0 := by have := R.z0; show (p.dat ++ [sT]).length ≤ _; rw [List.length_append, List.length_singleton]; lia, z1 := ?_, z2 := by have := R.z2; show p.fs.length ≤ _; lia, z3 := by have := R.z3; show (NLs p.t0 p.fs).length ≤ _; lia, z4 := ?_ }, rfl, ht, hs, rfl⟩
  · show s.dat ++ [.str "t"] = (p.dat ++ [sT]).map .str
    rw [R.dat, List.map_append]; rfl
  · obtain ⟨j, hj⟩ := R.dt
    refine ⟨j + 1, ?_⟩
    show p.dat ++ [sT] = _
    rw [hj, List.replicate_succ']
  · show p.outl.length + (p.dat ++ [sT]).length ≤ _
    rw [List.length_append, List.length_singleton]; lia
  · have := R.z4
    rw [ht, Str.length_append]
    show p.txt.length + 1 ≤ _; lia
end Mine
end
section
open PySem PySem.W PyProof.Rows PySem.SeqAt Mine.Ev Mine.Prm Mine.PrF
set_option maxRecDepth 100000
set_option maxHeartbeats 400000
namespace Mine
variable {s : S6} {G G' : Nat → AObj} {n n' : Nat} {P : Params} {sa : Addr} {is : List Int} {p : PS} {c : Nat}
theorem dids_cons (f : Fr) (r : List Fr) : didsOf (f :: r) = didsOf r ++ [f.d] := by simp [didsOf]
theorem nids_cons (f : Fr) (r : List Fr) : nidsOf (f :: r) = nidsOf r ++ [f.m] := by simp [nidsOf]
theorem upd_ne {i j : Nat} {o : AObj} (h : j ≠ i) : upd G i o j = G j := if_neg h

theorem op_ns {k : Nat} {u : Str} (R : Rel p c s G n) (hc : c ≤ 400) (hu : Uok u) :
    ∃ p' s' G', Ev (pe6 P sa is) (k + 50) (.c (.mt 113 (.ref 4)) [.str sE, .str u] [] (mk6 s G n)) (.v .none (mk6 s' G' n)) ∧ Rel p' (c + 1) s' G' n ∧ p'.fs = tellF p.fs (u, sE) ∧ p'.t0 = tellT p.t0 p.fs (u, sE) ∧ p'.txt = p.txt ∧ s'.seen = s.seen ∧ s'.path = s.path ∧ (∀ i kvs, G i = .dict kvs → G' i = .dict kvs) ∧ (∀ i, i ≠ 10 → (∀ f ∈ p.fs, i ≠ f.m) → G' i = G i) ∧ p'.fs.map Fr.m = p.fs.map Fr.m := by
  have hz3 := R.z3
  have hfl := R.flush
  have hz := hfl.z1
  have hz' := hfl.z4
  have h13 := R.n13
  have hD := R.datOk hc
  have hlen := tell_len (t0 := p.t0) (fs := p.fs) (x := (u, sE))
  have hgood := tell_good hu R.good
  cases hfs : p.fs with
  | nil =>
    rw [hfs] at hlen hgood hz3
    have hl : s.ns.getLast? = some (.ref 10) := by rw [R.ns, hfs]; rfl
    have ht : p.t0.length ≤ c + 10 := by
      have : (NLs p.t0 []).length = p.t0.length + nsL.length := List.length_append
      lia
    refine ⟨⟨[], p.t0 ++ [(u, sE)], (flP p).outl, []⟩, flS s p.dat, upd G 10 (.list ((p.t0 ++ [(u, sE)]).map pv)), ?_, ?_, rfl, rfl, ?_, flS_seen _ _, flS_path _ _, fun i kvs hi => ?_, fun i h10 _ => upd_ne h10, rfl⟩
    · have := t_startns (P := P) (sa := sa) (is := is) (k := k) (n := n) (prefix_ := sE) (uri := u) hD (e := 10) (.inr (.inr (.inl rfl))) hl R.g10 (by rw [List.length_map]; exact Nat.lt_of_le_of_lt (show p.t0.length ≤ 10000 by lia) (by decide))
      rw [List.map_append]; exact this
    · exact {
        out := hfl.out, dat := by rw [hfl.dat, flP_dat], decl := by rw [hfl.decl, flP_fs, hfs], ns := by rw [hfl.ns, flP_fs, hfs], pres := by rw [hfl.pres, flP_fs, hfs]
        n13 := h13, g6 := (upd_ne (by decide)).trans R.g6, g9 := (upd_ne (by decide)).trans R.g9, g10 := upd_at, fr := trivial, good := hgood, dt := ⟨0, rfl⟩, seen := fun h => absurd rfl h
        z0 := Nat.zero_le _, z1 := by show (flP p).outl.length + 0 ≤ _; lia, z2 := Nat.zero_le _, z3 := by
          have : (NLs (p.t0 ++ [(u, sE)]) []).length = (NLs p.t0 []).length + 1 := hlen
          show (NLs (p.t0 ++ [(u, sE)]) []).length ≤ _
          lia
        z4 := by
          have e : (PS.mk [] (p.t0 ++ [(u, sE)]) (flP p).outl []).txt = (flP p).txt := by unfold PS.txt; rw [flP_dat]
          rw [e]; lia }
    · have e : (PS.mk [] (p.t0 ++ [(u, sE)]) (flP p).outl []).txt = (flP p).txt := by unfold PS.txt; rw [flP_dat]
      rw [e, flP_txt]
    · by_cases h : i = 10
      · subst h; rw [R.g10] at hi; cases hi
      · rw [upd_ne h]; exact hi
  | cons f r =>
    rw [hfs] at hlen hgood hz3
    have hfr := R.fr
    rw [hfs] at hfr
    obtain ⟨a, b, d, e, g, i⟩ := hfr
    have hl : s.ns.getLast? = some (.ref f.m) := by
      rw [R.ns, hfs, nids_cons, List.map_append]
      exact List.getLast?_concat
    have ht : f.told.length ≤ c + 10 := by
      have : (NLs p.t0 (f :: r)).length = f.told.length + (NLs p.t0 r).length := List.length_append
      lia
    have hfs2 : didsOf ({ f with told := f.told ++ [(u, sE)] } :: r) = didsOf (f :: r) := rfl
    refine ⟨⟨{ f with told := f.told ++ [(u, sE)] } :: r, p.t0, (flP p).outl, []⟩, flS s p.dat, upd G f.m (.list ((f.told ++ [(u, sE)]).map pv)), ?_, ?_, rfl, rfl, ?_, flS_seen _ _, flS_path _ _, fun i kvs hi => ?_, fun i _ hm => upd_ne (hm f List.mem_cons_self), rfl⟩
    · have := t_startns (P := P) (sa := sa) (is := is) (k := k) (n := n) (prefix_ := sE) (uri := u) hD (e := f.m) (.inr (.inr (.inr (by lia)))) hl g (by rw [List.length_map]; exact Nat.lt_of_le_of_lt (show f.told.length ≤ 10000 by lia) (by decide))
      rw [List.map_append]; exact this
    · have hz2 := R.z2
      rw [hfs] at hz2
      exact {
        out := hfl.out, dat := by rw [hfl.dat, flP_dat], decl := by rw [hfl.decl, flP_fs, hfs]; rfl, ns := by rw [hfl.ns, flP_fs, hfs]; rfl, pres := by rw [hfl.pres, flP_fs, hfs]; rfl
        n13 := h13, g6 := (upd_ne (by lia)).trans R.g6, g9 := (upd_ne (by lia)).trans R.g9, g10 := (upd_ne (by lia)).trans R.g10
        fr := ⟨a, b, d, (upd_ne (show f.d ≠ f.m by lia)).trans e, upd_at, i.congr fun j _ h2 => upd_ne (show j ≠ f.m by have : j < f.d := h2; lia)⟩, good := hgood, dt := ⟨0, rfl⟩, seen := fun h => absurd rfl h
        z0 := Nat.zero_le _, z1 := by show (flP p).outl.length + 0 ≤ _; lia, z2 := Nat.le_succ_of_le hz2, z3 := by
          have : (NLs p.t0 ({ f with told := f.told ++ [(u, sE)] } :: r)).length = (NLs p.t0 (f :: r)).length + 1 := hlen
          show (NLs p.t0 ({ f with told := f.told ++ [(u, sE)] } :: r)).length ≤ _
          lia
        z4 := by
          have e : (PS.mk ({ f with told := f.told ++ [(u, sE)] } :: r) p.t0 (flP p).outl []).txt = (flP p).txt := by unfold PS.txt; rw [flP_dat]
          rw [e]; lia }
    · have e : (PS.mk ({ f with told := f.told ++ [(u, sE)] } :: r) p.t0 (flP p).outl []).txt = (flP p).txt := by unfold PS.txt; rw [flP_dat]
      rw [e, flP_txt]
    · by_cases h : i = f.m
      · subst h; rw [g] at hi; cases hi
      · rw [upd_ne h]; exact hi

noncomputable def endX (u : Str) : Str := if u = sP then "</p:a>" else "</a>"
theorem op_end {k : Nat} {f : Fr} {r : List Fr} (R : Rel p c s G n) (hc : c ≤ 400) (hfs : p.fs = f :: r) :
    ∃ p' s' G' n', Ev (pe6 P sa is) (k + 60) (.c (.mt 133 (.ref 4)) [.str (tagOf f.uri)] [] (mk6 s G n)) (.v .none (mk6 s' G' n')) ∧ n ≤ n' ∧ (∀ i, i < n → G' i = G i) ∧ Rel p' (c + 1) s' G' n' ∧ p'.fs = r ∧ p'.dat = [] ∧ p'.txt = p.txt ++ endX f.uri ∧ s'.seen = s.seen ∧ s'.path = s.path := by
  have hfl := R.flush
  have hz := hfl.z1
  have hz4 := hfl.z4
  have hz2 := R.z2
  have hz3 := R.z3
  have hgood := R.good
  have hfr := R.fr
  have hSD := R.SD
  have hSN := R.SN
  have hw1 := R.hz1 hc
  have hw2 := R.hz2 hc
  have hq : qres (walkL (didsOf p.fs) (lvl G)) (walkL (nidsOf p.fs) (lvl G)) f.uri "a" = some (if f.uri = sP then nameOf "p" "a" else "a", none) := by
    rw [R.WD, R.WN, hfs]; rw [hfs] at hgood; exact q_end hgood
  rw [hfs] at hz2 hz3 hgood hfr hSD hSN hw1 hw2 hq
  obtain ⟨a, b, d, e, g, i⟩ := hfr
  have A := tag_ok hgood.2.1
  have hl1 : (didsOf (f :: r)).getLast? = some f.d := by rw [dids_cons]; exact List.getLast?_concat
  have hdn : f.d ∉ nidsOf (f :: r) := by
    rw [nids_cons]
    intro h
    rcases List.mem_append.mp h with h | h
    · rcases List.mem_cons.mp h with h | h
      · lia
      rcases List.mem_cons.mp h with h | h
      · lia
      · have := (i.memM f.d (List.mem_reverse.mp h)).2.1; lia
    · rw [List.mem_singleton] at h; lia
  have hpl : s.pres.length = r.length + 2 := by rw [R.pres, List.length_replicate, hfs]; rfl
  have hdl : s.decl.length = r.length + 2 := by rw [R.decl, List.length_map, hfs]; simp [didsOf]
  have hnl : s.ns.length = r.length + 3 := by rw [R.ns, List.length_map, hfs]; simp [nidsOf]
  have hp1 : s.pres.getLast? = some (.bool false) := by
    rw [R.pres, hfs]
    show (List.replicate (r.length + 1 + 1) _).getLast? = _
    rw [List.replicate_succ']; exact List.getLast?_concat
  have hp2 : s.decl.getLast? = some (.ref f.d) := by
    rw [R.decl, hfs, dids_cons, List.map_append]; exact List.getLast?_concat
  have hp3 : s.ns.getLast? = some (.ref f.m) := by
    rw [R.ns, hfs, nids_cons, List.map_append]; exact List.getLast?_concat
  have hr1 : r.length + 1 ≤ c := hz2
  obtain ⟨G1, n1, h1, h2, h3⟩ := t_end (P := P) (sa := sa) (is := is) (k := k) (R.datOk hc) R.n13 A.hq A.hp A.hu A.ht hSD hSN hl1 hdn hw1 hw2 hq (by split <;> decide) ⟨hp1, by lia⟩ ⟨hp2, by lia⟩ ⟨hp3, by lia⟩
  have hx : endT (if f.uri = sP then nameOf "p" "a" else "a") = endX f.uri := by
    unfold endX
    split <;> kernel_rfl
  have htx : (PS.mk r p.t0 ((flP p).outl ++ [endX f.uri]) []).txt = p.txt ++ endX f.uri := by
    rw [← flP_txt p]
    show cat ((flP p).outl ++ [endX f.uri]) ++ Str.empty = cat (flP p).outl ++ cat (flP p).dat ++ endX f.uri
    rw [flP_dat, cat_app, cat_one, Str.append_empty]
    show _ = cat (flP p).outl ++ Str.empty ++ endX f.uri
    rw [Str.append_empty]
  have hxl : (endX f.uri).length ≤ 20 := by unfold endX; split <;> decide
  have hG : ∀ i, i < n → G1 i = G i := h2
  have h13 := R.n13
  refine ⟨⟨r, p.t0, (flP p).outl ++ [endX f.uri], []⟩, _, G1, n1, h3, h1, h2, ?_, rfl, rfl, htx, flS_seen _ _, flS_path _ _⟩
  exact {
    out := by
      show (flS s p.dat).out ++ [.str (endT _)] = ((flP p).outl ++ [endX f.uri]).map .str
      rw [hfl.out, hx, List.map_append]; rfl
    dat := by
      show (flS s p.dat).dat = _
      rw [hfl.dat, flP_dat]
    decl := by
      show (flS s p.dat).decl.dropLast = _
      rw [flS_decl, R.decl, hfs, dids_cons, List.map_append]; exact List.dropLast_concat
    ns := by
      show (flS s p.dat).ns.dropLast = _
      rw [flS_ns, R.ns, hfs, nids_cons, List.map_append]; exact List.dropLast_concat
    pres := by
      show (flS s p.dat).pres.dropLast = _
      rw [flS_pres, R.pres, hfs]
      show (List.replicate (r.length + 1 + 1) _).dropLast = _
      rw [List.replicate_succ']; exact List.dropLast_concat
    n13 := by lia
    g6 := (hG 6 (by lia)).trans R.g6
    g9 := (hG 9 (by lia)).trans R.g9
    g10 := (hG 10 (by lia)).trans R.g10
    fr := (i.congr fun j _ h => hG j (by lia)).mono (by lia)
    good := hgood.1
    dt := ⟨0, rfl⟩
    seen := fun h => absurd rfl h
    z0 := Nat.zero_le _
    z1 := by
      show ((flP p).outl ++ [endX f.uri]).length + 0 ≤ _
      rw [List.length_append, List.length_singleton]; lia
    z2 := by show r.length ≤ _; lia
    z3 := by
      have : (NLs p.t0 (f :: r)).length = f.told.length + (NLs p.t0 r).length := List.length_append
      show (NLs p.t0 r).length ≤ _
      lia
    z4 := by
      have := R.z4
      rw [htx, Str.length_append]; lia }
end Mine
end
section
open PySem PySem.W PyProof.Rows PySem.SeqAt Mine.Ev Mine.Prm Mine.PrF
set_option maxRecDepth 100000
set_option maxHeartbeats 400000
namespace Mine
variable {s : S6} {G G' : Nat → AObj} {n n' : Nat} {P : Params} {sa : Addr} {is : List Int} {p : PS} {c : Nat}
theorem walkL_snoc (ids : List Nat) (lv : Nat → List (Str × Str)) (d : Nat) : walkL (ids ++ [d]) lv = lv d ++ walkL ids lv := by
  unfold walkL
  rw [List.reverse_append]; rfl
theorem walkL_congr {ids : List Nat} {lv lv' : Nat → List (Str × Str)} (h : ∀ j ∈ ids, lv j = lv' j) : walkL ids lv = walkL ids lv' := by
  unfold walkL
  have h' : ∀ j ∈ ids.reverse, lv j = lv' j := fun j hj => h j (List.mem_reverse.mp hj)
  generalize ids.reverse = l at h'
  induction l with
  | nil => rfl
  | cons x r ih => rw [List.flatMap_cons, List.flatMap_cons, h' x List.mem_cons_self, ih fun j hj => h' j (List.mem_cons_of_mem _ hj)]
noncomputable def akv (b : Bool) : List (Str × V) := if b then [(qx, .str "1")] else []
noncomputable def usedOf (uri : Str) (b : Bool) : Bool := decide (uri = sP) || b
noncomputable def nmOf (uri : Str) : Str := if uri = sP then nameOf "p" "a" else "a"
theorem nm_d1 (uri : Str) : "<" ++ nmOf uri = d1 uri := by
  unfold nmOf d1; split <;> kernel_rfl

theorem start_core {k : Nat} {uri scope : Str} {b : Bool} {a : Nat} (R : Rel p c s G n) (hc : c ≤ 400) (hu : Uall uri) (hsc : Uok scope) (h1 : uri ≠ sP → scope = uri) (h2 : (scope, sE) ∈ NLs p.t0 p.fs ∨ (scope = sE ∧ ∀ g ∈ p.fs, g.scope = sE))
    (hst : ∃ G1 n1 m, n + 1 ≤ n1 ∧ (∀ i, i < n + 1 → i ≠ n → G1 i = upd G n (.list []) i) ∧ G1 n = .list ((Nof uri (usedOf uri b) p.fs).map pv) ∧ okId m ∧ n + 1 ≤ m ∧ m < n1 ∧ G1 m = .list [] ∧
      Ev (pe6 P sa is) (k + 61) (.c (.mt 126 (.ref 4)) [.str (tagOf uri), .ref a, .ref n] [] (mk6 { flS s p.dat with decl := s.decl ++ [.ref n] } (upd G n (.list [])) (n + 1))) (.v .none (mk6 (stS { flS s p.dat with decl := s.decl ++ [.ref n] } (nmOf uri) ((Nof uri (usedOf uri b) p.fs).map alOf ++ axs b) (.bool false) m) G1 n1))) :
    ∃ p' s' G' n' f, Ev (pe6 P sa is) (k + 64) (.c (.mt 120 (.ref 4)) [.str (tagOf uri), .ref a] [] (mk6 s G n)) (.v .none (mk6 s' G' n')) ∧ n ≤ n' ∧ (∀ i, i < n → G' i = G i) ∧ Rel p' (c + 1) s' G' n' ∧ p'.fs = f :: p.fs ∧ f.uri = uri ∧ f.used = usedOf uri b ∧ f.scope = scope ∧
      p'.txt = p.txt ++ (d1 uri ++ (d2 uri p.fs ++ (d3 (usedOf uri b) p.fs ++ d4 b))) ∧ s'.seen = true ∧ s'.path = s.path ∧ n ≤ f.m := by
  obtain ⟨G1, n1, m, e1, e2, e3, e4, e5, e6, e7, e8⟩ := hst
  have hfl := R.flush
  have hz := hfl.z1
  have hz4 := hfl.z4
  have hz2 := R.z2
  have hz3 := R.z3
  have h13 := R.n13
  have hG : ∀ i, i < n → G1 i = G i := fun i hi => (e2 i (by lia) (by lia)).trans (upd_ne (by lia))
  let L := (Nof uri (usedOf uri b) p.fs).map alOf ++ axs b
  let f : Fr := ⟨uri, usedOf uri b, scope, [], n, m⟩
  let p' : PS := ⟨f :: p.fs, p.t0, (flP p).outl ++ ["<" ++ nmOf uri] ++ aOutS L ++ [(">" : Str)], []⟩
  have htx : p'.txt = p.txt ++ (d1 uri ++ (d2 uri p.fs ++ (d3 (usedOf uri b) p.fs ++ d4 b))) := by
    have hsa := start_attrs (used := usedOf uri b) (b := b) (r := p.fs) hu
    rw [← flP_txt p]
    show cat ((flP p).outl ++ ["<" ++ nmOf uri] ++ aOutS L ++ [(">" : Str)]) ++ Str.empty = cat (flP p).outl ++ cat (flP p).dat ++ _
    rw [Str.append_empty, cat_app, cat_app, cat_app, cat_one, cat_one, aOutS_cat, flP_dat, nm_d1, Str.append_assoc, Str.append_assoc, hsa]
    show _ = cat (flP p).outl ++ Str.empty ++ _
    rw [Str.append_empty]
  refine ⟨p', _, G1, n1, f, t_start (R.datOk hc) h13 (by rw [R.decl, List.length_map]; have := (R.hz1 hc).1; lia) e8, by lia, hG, ?_, rfl, rfl, rfl, rfl, htx, rfl, flS_path _ _, by show n ≤ m; lia⟩
  exact {
    out := by
      show (flS s p.dat).out ++ [.str ("<" ++ nmOf uri)] ++ aOut L ++ [.str ">"] = ((flP p).outl ++ ["<" ++ nmOf uri] ++ aOutS L ++ [(">" : Str)]).map .str
      rw [hfl.out, aOut_eq, List.map_append, List.map_append, List.map_append]; rfl
    dat := by
      show (flS s p.dat).dat = _
      rw [hfl.dat, flP_dat]
    decl := by
      show s.decl ++ [.ref n] = (didsOf (f :: p.fs)).map .ref
      rw [dids_cons, List.map_append, R.decl]; rfl
    ns := by
      show (flS s p.dat).ns ++ [.ref m] = (nidsOf (f :: p.fs)).map .ref
      rw [nids_cons, List.map_append, flS_ns, R.ns]; rfl
    pres := by
      show (flS s p.dat).pres ++ [.bool false] = List.replicate (p.fs.length + 1 + 1) (.bool false)
      rw [flS_pres, R.pres, ← List.replicate_succ']
    n13 := by lia
    g6 := (hG 6 (by lia)).trans R.g6
    g9 := (hG 9 (by lia)).trans R.g9
    g10 := (hG 10 (by lia)).trans R.g10
    fr := ⟨h13, by show n < m; lia, e6, e3, e7, R.fr.congr fun j _ hj => hG j hj⟩
    good := ⟨R.good, hu, hsc, h1, fun h => by show (decide (uri = sP) || b) = true; rw [decide_eq_true (show uri = sP from h)]; rfl, fun x hx => (nomatch hx), h2⟩
    dt := ⟨0, rfl⟩
    seen := fun h => absurd rfl h
    z0 := Nat.zero_le _
    z1 := by
      have : (aOutS L).length ≤ 1 := by unfold aOutS; split <;> simp
      show ((flP p).outl ++ ["<" ++ nmOf uri] ++ aOutS L ++ [(">" : Str)]).length + 0 ≤ _
      rw [List.length_append, List.length_append, List.length_append, List.length_singleton, List.length_singleton]; lia
    z2 := by show p.fs.length + 1 ≤ _; lia
    z3 := by show (NLs p.t0 p.fs).length ≤ _; lia
    z4 := by
      have := R.z4
      have a1 := d1_len (uri := uri)
      have a2 := d2_len (r := p.fs) hu
      have a3 := d3_len (used := usedOf uri b) (r := p.fs)
      have a4 := d4_len (b := b)
      rw [htx, Str.length_append, Str.length_append, Str.length_append, Str.length_append]; lia }

theorem Nof_parts {uri : Str} {used : Bool} {r : List Fr} : Nof uri used r = (if uri ≠ sP ∧ uri ≠ near r then some (uri, sE) else none).toList ++ (if used = true ∧ anyU r = false then some ppP else none).toList := by
  unfold Nof
  split <;> split <;> rfl

theorem op_start {k : Nat} {uri scope : Str} {b : Bool} {a : Nat} (R : Rel p c s G n) (hc : c ≤ 400) (hu : Uall uri) (hsc : Uok scope) (h1 : uri ≠ sP → scope = uri) (h2 : (scope, sE) ∈ NLs p.t0 p.fs ∨ (scope = sE ∧ ∀ g ∈ p.fs, g.scope = sE)) (h3 : uri ≠ sP → near p.fs = uri ∨ (uri, sE) ∈ NLs p.t0 p.fs) (ha : okId a ∧ a < n ∧ G a = .dict (akv b)) :
    ∃ p' s' G' n' f, Ev (pe6 P sa is) (k + 64) (.c (.mt 120 (.ref 4)) [.str (tagOf uri), .ref a] [] (mk6 s G n)) (.v .none (mk6 s' G' n')) ∧ n ≤ n' ∧ (∀ i, i < n → G' i = G i) ∧ Rel p' (c + 1) s' G' n' ∧ p'.fs = f :: p.fs ∧ f.uri = uri ∧ f.used = usedOf uri b ∧ f.scope = scope ∧
      p'.txt = p.txt ++ (d1 uri ++ (d2 uri p.fs ++ (d3 (usedOf uri b) p.fs ++ d4 b))) ∧ s'.seen = true ∧ s'.path = s.path ∧ n ≤ f.m := by
  refine start_core R hc hu hsc h1 h2 ?_
  have h13 := R.n13
  let s1 : S6 := { flS s p.dat with decl := s.decl ++ [.ref n] }
  let G1 := upd G n (.list [])
  have RG : Rel (flP p) c (flS s p.dat) G1 (n + 1) := R.flush.grow (Nat.le_succ _) fun i hi => upd_ne (by lia)
  have hln : lvl G1 n = [] := lvl_of (l := []) upd_at
  have SD := RG.SD
  have SN := RG.SN
  have WD := RG.WD
  have WN := RG.WN
  have w1 := RG.hz1 hc
  have w2 := RG.hz2 hc
  rw [flP_fs] at SD SN WD WN w1 w2
  rw [flP_t0] at WN
  have WD' : walkL (didsOf p.fs ++ [n]) (lvl G1) = DLs p.fs := by rw [walkL_snoc, hln, WD]; rfl
  have hnn : n ∉ nidsOf p.fs := fun h => by
    rcases List.mem_cons.mp h with h | h
    · lia
    rcases List.mem_cons.mp h with h | h
    · lia
    · have := (R.fr.memM n (List.mem_reverse.mp h)).2.1; lia
  have hnd : n ∉ didsOf p.fs := fun h => by
    rcases List.mem_cons.mp h with h | h
    · lia
    · have := (R.fr.memD n (List.mem_reverse.mp h)).2.1; lia
  have hfl := DLs_len p.fs
  have hz2 := R.z2
  have I : QIn s1 G1 (n + 1) (didsOf p.fs ++ [n]) (nidsOf p.fs) (lvl G1) (lvl G1) n := {
    SD := ⟨by
        show s.decl ++ [.ref n] = _
        rw [List.map_append, R.decl]; rfl, fun j hj => by
        rcases List.mem_append.mp hj with h | h
        · exact SD.ok j h
        · rw [List.mem_singleton] at h; subst h
          exact ⟨.inr (.inr (.inr h13)), Nat.lt_succ_self _, by rw [hln]; exact upd_at⟩⟩
    SN := ⟨SN.eq, SN.ok⟩
    hd0 := List.getLast?_concat
    hdn := hnn
    hz1 := by
      rw [WD']
      exact ⟨by rw [List.length_append, List.length_singleton]; unfold didsOf; rw [List.length_cons, List.length_reverse, List.length_map]; lia, by lia, DLs_sz R.good⟩
    hz2 := w2 }
  have A := tag_ok hu
  have S : SOk s1 (.bool false) := {
    hpr := by
      show (flS s p.dat).pres.getLast? = _
      rw [flS_pres, R.pres, List.replicate_succ']; exact List.getLast?_concat
    hpl := by
      show (flS s p.dat).pres.length ≤ _
      rw [flS_pres, R.pres, List.length_replicate]; lia
    hnl := by
      show (flS s p.dat).ns.length ≤ _
      rw [flS_ns, R.ns, List.length_map]; have := w2.1; lia
    hol := by
      show (flS s p.dat).out.length ≤ _
      rw [R.flush.out, List.length_map]; have := R.flush.z1; lia }
  have hnm : (nmOf uri).length ≤ 3000 := by unfold nmOf; split <;> decide
  -- the name of the element
  have q0 : ∃ dc0 : Option (Str × Str), qres (walkL (didsOf p.fs ++ [n]) (lvl G1)) (walkL (nidsOf p.fs) (lvl G1)) uri "a" = some (nmOf uri, dc0) ∧
      (uri ≠ sP → dc0 = if uri ≠ sP ∧ uri ≠ near p.fs then some (uri, sE) else none) ∧ (uri = sP → dc0 = if anyU p.fs = false then some ppP else none) ∧ ∀ x ∈ dc0.toList, PairOk x := by
    rw [WD', WN]
    by_cases hp : uri = sP
    · have q := q_startP (tag := "a") (N := []) R.good (fun x hx => by cases hx)
      rw [List.nil_append] at q
      refine ⟨_, by rw [hp, q]; show _ = some (nmOf sP, _); rw [show nmOf sP = nameOf "p" "a" from if_pos rfl], fun h => absurd hp h, fun _ => ?_, fun x hx => ?_⟩
      · cases anyU p.fs <;> simp
      · split at hx
        · cases hx
        · have : x = ppP := by simpa using hx
          exact .inr this
    · have q := q_start (tag := "a") R.good (hu.cases hp) (h3 hp)
      refine ⟨_, by rw [q]; rw [show nmOf uri = "a" from if_neg hp], fun _ => ?_, fun h => absurd h hp, fun x hx => ?_⟩
      · by_cases e : uri = near p.fs
        · rw [if_neg (fun q => q e), if_neg (fun q => q.2 e)]
        · rw [if_pos e, if_pos ⟨hp, e⟩]
      · split at hx
        · have : x = (uri, sE) := by simpa using hx
          rw [this]; exact .inl ⟨hu.cases hp, rfl⟩
        · cases hx
  obtain ⟨dc0, hq0, hd1, hd2, hd3⟩ := q0
  cases b with
  | false =>
    have hN : lvl G1 n ++ dc0.toList = Nof uri (usedOf uri false) p.fs := by
      rw [hln, List.nil_append, Nof_parts]
      by_cases hp : uri = sP
      · rw [hd2 hp, if_neg (show ¬ (uri ≠ sP ∧ uri ≠ near p.fs) from fun q => q.1 hp)]
        have : usedOf uri false = true := by unfold usedOf; rw [decide_eq_true hp]; rfl
        rw [this]
        cases anyU p.fs <;> simp
      · rw [hd1 hp]
        have : usedOf uri false = false := by unfold usedOf; rw [decide_eq_false hp]; rfl
        rw [this]; simp
    have hsh := Nof_sh (used := usedOf uri false) (r := p.fs) hu
    have hlok : LOk ((Nof uri (usedOf uri false) p.fs).map alOf) := by
      have := sh_lok hsh false
      rw [show axs false = [] from rfl, List.append_nil] at this; exact this
    obtain ⟨G2, n2, m, j1, j2, j3, j4, j5, j6, j7, j8⟩ := t_stA (P := P) (sa := sa) (is := is) (k := k) (s := s1) (G := G1) (n := n + 1) (a := a) (d := n) (by lia) A I ⟨ha.1, by lia, (upd_ne (by lia)).trans ha.2.2⟩ (by lia) hq0 hnm S (hN ▸ sh_nok hsh) (hN ▸ hlok)
    rw [hN] at j3 j8
    refine ⟨G2, n2, m, j1, j2, j3, j4, j5, j6, j7, ?_⟩
    rw [show axs false = [] from rfl, List.append_nil]; exact j8
  | true =>
    have hus : usedOf uri true = true := by unfold usedOf; simp
    have W2 : walkL (didsOf p.fs ++ [n]) (updD (lvl G1) n (lvl G1 n ++ dc0.toList)) = dc0.toList ++ DLs p.fs := by
      rw [walkL_snoc, walkL_congr (lv := updD (lvl G1) n (lvl G1 n ++ dc0.toList)) (lv' := lvl G1) (fun j hj => if_neg (fun (e : j = n) => hnd (e ▸ hj))), WD]
      show (if n = n then lvl G1 n ++ dc0.toList else _) ++ _ = _
      rw [if_pos rfl, hln, List.nil_append]
    have q1 := q_startP (tag := "x") (N := dc0.toList) R.good hd3
    have hd0l : dc0.toList.length ≤ 1 := by cases dc0 <;> simp
    have hN : (lvl G1 n ++ dc0.toList) ++ (if ppP ∈ dc0.toList ∨ anyU p.fs = true then none else some ppP : Option (Str × Str)).toList = Nof uri (usedOf uri true) p.fs := by
      rw [hln, List.nil_append, Nof_parts, hus]
      by_cases hp : uri = sP
      · rw [hd2 hp, if_neg (show ¬ (uri ≠ sP ∧ uri ≠ near p.fs) from fun q => q.1 hp)]
        cases anyU p.fs <;> simp
      · have hnp : ppP ∉ dc0.toList := by
          rw [hd1 hp]
          split
          · intro h
            have : ppP = (uri, sE) := by simpa using h
            exact absurd (show sP = sE from congrArg Prod.snd this) (by decide)
          · simp
        rw [← hd1 hp]
        congr 1
        cases anyU p.fs <;> simp [hnp]
    have hsh := Nof_sh (used := usedOf uri true) (r := p.fs) hu
    have hnm1 : nameOf "p" "x" = "p:x" := by kernel_rfl
    have hlok := sh_lok hsh true
    obtain ⟨G2, n2, m, j1, j2, j3, j4, j5, j6, j7, j8⟩ := t_stB (P := P) (sa := sa) (is := is) (k := k) (s := s1) (G := G1) (n := n + 1) (a := a) (d := n) (x1 := "1") (by lia) A qx_ok I ⟨ha.1, by lia, (upd_ne (by lia)).trans ha.2.2⟩ (by lia) (tag_ne hu) (tag_sort hu) (tag_nodup hu) space_ne (by decide) hq0 (by
      rw [W2]
      exact ⟨by rw [List.length_append]; lia, fun x hx => (List.mem_append.mp hx).elim (fun h => pair_len (hd3 x h)) (DLs_sz R.good x)⟩) (by rw [W2, WN]; exact q1) hnm S (hN ▸ sh_nok hsh) (by rw [hN, hnm1]; exact hlok)
    rw [hN] at j3 j8
    refine ⟨G2, n2, m, j1, j2, j3, j4, j5, j6, j7, ?_⟩
    rw [hnm1] at j8
    exact j8
end Mine
end
section
open PySem PySem.W PyProof.Rows PySem.SeqAt Mine.Ev Mine.Prm Mine.PrF
set_option maxRecDepth 100000
set_option maxHeartbeats 400000
namespace Mine
variable {s : S6} {G G' : Nat → AObj} {n n' : Nat} {P : Params} {sa : Addr} {is : List Int} {p : PS} {c : Nat}
noncomputable def sc_law : Sc := [("script", .local), ("out", .local), ("path", .local), ("due", .local), ("target", .local), ("moves", .local), ("move", .local), ("rest", .local), ("uri", .local), ("attrs", .local), ("tag", .local), ("used", .local), ("scope", .local), ("near", .local), ("C14NWriterTarget", .globalImplicit), ("_law_walk", .globalImplicit), ("sum", .globalImplicit), ("len", .globalImplicit), ("dict", .globalImplicit)]
theorem nm_law : (fdAt (hd.heap_39 P) 178).scope.names = sc_law := by kernel_rfl
theorem body_law : (fdAt (hd.heap_39 P) 178).body = .stmts (bodyAt (hd.heap_39 P) 178) := by kernel_rfl
theorem glob_dict : (pe6 P sa is).glob "dict" = some (.bf .dict) := by kernel_rfl
theorem glob_sum : (pe6 P sa is).glob "sum" = some (.bf .sum) := by kernel_rfl
theorem glob_cls : (pe6 P sa is).glob "C14NWriterTarget" = some (.fn 150) := by kernel_rfl
theorem glob_walk : (pe6 P sa is).glob "_law_walk" = some (.fn 173) := by kernel_rfl
noncomputable def ifB : Option Stmt → List Stmt
  | some (.If _ b _ _) => b
  | _ => []
noncomputable def ifE : Option Stmt → List Stmt
  | some (.If _ _ b _) => b
  | _ => []
noncomputable abbrev bS (P : Params) : List Stmt := ifB (forB (bodyAt (hd.heap_39 P) 178)[5]?)[0]?
abbrev Lb (sa : Addr) (due : Str) (mv : Nat) : Loc := [("script", .fn sa), ("out", .ref 1), ("path", .ref 2), ("due", .str due), ("target", .ref 4), ("moves", .ref mv)]
abbrev L0 (sa : Addr) (due : Str) (mv : Nat) (m r : Int) : Loc := [("script", .fn sa), ("out", .ref 1), ("path", .ref 2), ("due", .str due), ("target", .ref 4), ("moves", .ref mv), ("move", .int m), ("rest", .int r)]
abbrev L3 (sa : Addr) (due : Str) (mv : Nat) (m r : Int) (u : Str) (a : Nat) (t : Str) : Loc := [("script", .fn sa), ("out", .ref 1), ("path", .ref 2), ("due", .str due), ("target", .ref 4), ("moves", .ref mv), ("move", .int m), ("rest", .int r), ("uri", .str u), ("attrs", .ref a), ("tag", .str t)]
abbrev L5 (sa : Addr) (due : Str) (mv : Nat) (m r : Int) (u : Str) (a : Nat) (t ne sc : Str) : Loc := [("script", .fn sa), ("out", .ref 1), ("path", .ref 2), ("due", .str due), ("target", .ref 4), ("moves", .ref mv), ("move", .int m), ("rest", .int r), ("uri", .str u), ("attrs", .ref a), ("tag", .str t), ("near", .str ne), ("scope", .str sc)]
abbrev LF (sa : Addr) (due : Str) (mv : Nat) (m r : Int) (u : Str) (a : Nat) (t ne sc : Str) (us : Bool) : Loc := [("script", .fn sa), ("out", .ref 1), ("path", .ref 2), ("due", .str due), ("target", .ref 4), ("moves", .ref mv), ("move", .int m), ("rest", .int r), ("uri", .str u), ("attrs", .ref a), ("tag", .str t), ("near", .str ne), ("scope", .str sc), ("used", .bool us)]

theorem cmp_neT {H : Hp} {a b : Str} (h : a ≠ b) : Cmp H .NotEq (.str a) (.str b) true := by
  have := Cmp.ne (EqV.str (H := H) (x := a) (y := b))
  rwa [beq_false_of_ne h] at this
theorem cmp_neF {H : Hp} {a b : Str} (h : a = b) : Cmp H .NotEq (.str a) (.str b) false := by
  have := Cmp.ne (EqV.str (H := H) (x := a) (y := b))
  rwa [beq_iff_eq.mpr h] at this
noncomputable def frV (f : Fr) : V := .tup [.str f.uri, .bool f.used, .str f.scope]
noncomputable def t3 : V → Option (Str × Bool × Str)
  | .tup [.str a, .bool b, .str c] => some (a, b, c)
  | _ => none
noncomputable def on3 (g : Str × Bool × Str → List V) (x : V) : List V := match t3 x with
  | some p => g p
  | none => []
noncomputable def gNear : V → List V := on3 fun p => if p.1 ≠ sP then [.str p.1] else []
noncomputable def gScope : V → List V := on3 fun p => [.str p.2.2]
noncomputable def gUsed : V → List V := on3 fun p => [.bool p.2.1]
noncomputable def pathV (fs : List Fr) : List V := (fs.map frV).reverse
theorem pathV_cons (f : Fr) (r : List Fr) : pathV (f :: r) = pathV r ++ [frV f] := by simp [pathV]
theorem near_last : ∀ (fs : List Fr), ([V.str sE] ++ (pathV fs).flatMap gNear).getLast? = some (.str (near fs))
  | [] => rfl
  | f :: r => by
    rw [pathV_cons, List.flatMap_append]
    by_cases h : f.uri ≠ sP
    · have e : [frV f].flatMap gNear = [.str f.uri] := by
        show (if f.uri ≠ sP then [V.str f.uri] else []) ++ [] = _
        rw [if_pos h]; rfl
      rw [e, ← List.append_assoc, List.getLast?_concat]
      show _ = some (V.str (if f.uri ≠ sP then f.uri else near r))
      rw [if_pos h]
    · have e : [frV f].flatMap gNear = [] := by
        show (if f.uri ≠ sP then [V.str f.uri] else []) ++ [] = _
        rw [if_neg h]; rfl
      rw [e, List.append_nil, near_last r]
      show _ = some (V.str (if f.uri ≠ sP then f.uri else near r))
      rw [if_neg h]
theorem scope_last : ∀ (fs : List Fr), ([V.str sE] ++ (pathV fs).flatMap gScope).getLast? = some (.str (scopeOf fs))
  | [] => rfl
  | f :: r => by
    rw [pathV_cons, List.flatMap_append, show [frV f].flatMap gScope = [.str f.scope] from rfl, ← List.append_assoc, List.getLast?_concat]; rfl
theorem fm_len {g : V → List V} (h : ∀ x, (g x).length ≤ 1) : ∀ (l : List V), (l.flatMap g).length ≤ l.length
  | [] => Nat.le_refl _
  | x :: r => by
    have := fm_len h r
    have := h x
    rw [List.flatMap_cons, List.length_append, List.length_cons]; lia
theorem on3_le {g : Str × Bool × Str → List V} (h : ∀ p, (g p).length ≤ 1) (x : V) : (on3 g x).length ≤ 1 := by
  unfold on3
  cases t3 x with
  | none => exact Nat.zero_le _
  | some p => exact h p
theorem gNear_le (x : V) : (gNear x).length ≤ 1 := on3_le (fun p => by
  by_cases h : p.1 ≠ sP
  · rw [if_pos h]; exact Nat.le_refl _
  · rw [if_neg h]; exact Nat.zero_le _) x
theorem gScope_le (x : V) : (gScope x).length ≤ 1 := on3_le (fun _ => Nat.le_refl _) x
theorem gUsed_le (x : V) : (gUsed x).length ≤ 1 := on3_le (fun _ => Nat.le_refl _) x
theorem mem_path {fs : List Fr} {x : V} (h : x ∈ pathV fs) : ∃ f, x = frV f := by
  unfold pathV at h
  rw [List.mem_reverse, List.mem_map] at h
  obtain ⟨f, _, e⟩ := h
  exact ⟨f, e.symm⟩

noncomputable def Grow (n : Nat) (G : Nat → AObj) (n' : Nat) (G' : Nat → AObj) : Prop := n ≤ n' ∧ ∀ i, i < n → G' i = G i
theorem Grow.trans {n1 n2 n3 : Nat} {G1 G2 G3 : Nat → AObj} (a : Grow n1 G1 n2 G2) (b : Grow n2 G2 n3 G3) : Grow n1 G1 n3 G3 :=
  ⟨Nat.le_trans a.1 b.1, fun i hi => (b.2 i (Nat.lt_of_lt_of_le hi a.1)).trans (a.2 i hi)⟩
theorem Grow.upd {o : AObj} : Grow n G (n + 1) (upd G n o) := ⟨Nat.le_succ _, fun i hi => upd_ne (by lia)⟩

noncomputable def bOf (r : Int) : Bool := (r / 4 % 3) == 0
theorem lA {k mv : Nat} {m r : Int} {uri due : Str} (hn : 13 ≤ n) (hu : Uall uri) (hix : atIdx [.str "", .str "d", .str "e", .str "p"] (r % 4) = some (.str uri)) :
    ∃ G' n' a, Grow n G n' G' ∧ okId a ∧ a < n' ∧ G' a = .dict (akv (bOf r)) ∧ ∀ fl lc h, Ev (pe6 P sa is) (k + 70) (.xs sc_law ((bS P).drop 3) (L3 sa due mv m r uri a (tagOf uri)) (mk6 s G' n')) (.f fl lc h) → Ev (pe6 P sa is) (k + 70) (.xs sc_law (bS P) (L0 sa due mv m r) (mk6 s G n)) (.f fl lc h) := by
  let G1 := upd G n (.list [.str "", .str "d", .str "e", .str "p"])
  let G2 := upd G1 (n + 1) (.dict (akv (bOf r)))
  have al1 : (mk6 s G n).alloc (.list [.str "", .str "d", .str "e", .str "p"]) = mk6 s G1 (n + 1) := mk6_alloc hn
  have al2 : (mk6 s G1 (n + 1)).alloc (.dict (akv (bOf r))) = mk6 s G2 (n + 2) := mk6_alloc (by lia)
  have hidx : index (mk6 s G1 (n + 1)) (.ref n) (.int (r % 4)) = some (.str uri) := by
    have : (mk6 s G1 (n + 1)).f n = .list [.str "", .str "d", .str "e", .str "p"] := (mk6_at (.inr (.inr (.inr hn)))).trans upd_at
    rw [idx_list this]; exact hix
  have hul : uri.length ≤ 1 := by rcases hu with h | h; exact h.len; rw [h]; decide
  have hlim : ∀ {x : Nat}, x ≤ 3000 → x ≤ lim := fun h => Nat.le_trans h (by decide)
  have hl2 : (("{" : Str) ++ uri).length = 1 + uri.length := by rw [strLen_append]; rfl
  refine ⟨G2, n + 2, n + 1, Grow.upd.trans Grow.upd, .inr (.inr (.inr (by lia))), by lia, upd_at, fun fl lc h hz => ?_⟩
  exact xs_cons (xv_Asg rfl (fun _ => rfl) (ev_Idx rfl (ev_List (evL_cons rfl (ev_Const rfl) (evL_cons rfl (ev_Const rfl) (evL_cons rfl (ev_Const rfl) (evL_cons rfl (ev_Const rfl) evL_nil)))) (leR rfl) al1) (ev_Bin (ev_Name rfl) (ev_Const rfl) (binR rfl)) hidx) (asgs_one rfl (asg_Name rfl))) (xs_cons (xv_Asg rfl (fun _ => rfl) (ev_If (t := bOf r) (v := .ref (n + 1)) (H2 := mk6 s G2 (n + 2)) (tv_Cmp rfl (ev_Bin (ev_Bin (ev_Name rfl) (ev_Const rfl) (binR rfl)) (ev_Const rfl) (binR rfl)) (ev_Const rfl) (cmpR rfl)) (by
      cases hb : bOf r
      · rw [hb] at al2; exact ev_Dict0 al2
      · rw [hb] at al2; exact ev_Dict1 (ev_Const rfl) (ev_Const rfl) al2)) (asgs_one rfl (asg_Name rfl))) (xs_cons (xv_Asg rfl (fun _ => rfl) (ev_If (t := decide (uri ≠ sE)) (v := .str (tagOf uri)) (H2 := mk6 s G2 (n + 2)) (tv_Cmp rfl (ev_Name rfl) (ev_Const rfl) (by
      by_cases h : uri = sE
      · rw [decide_eq_false (fun q => q h)]; exact cmp_neF h
      · rw [decide_eq_true h]; exact cmp_neT h)) (by
      by_cases h : uri = sE
      · rw [decide_eq_false (fun q => q h), show tagOf uri = "a" from if_pos h]; exact ev_Const rfl
      · rw [decide_eq_true h, show tagOf uri = "{" ++ uri ++ "}a" from if_neg h]
        exact ev_Bin (ev_Bin (ev_Const rfl) (ev_Name rfl) (.addS (hlim (by show 1 + uri.length ≤ _; lia)))) (ev_Const rfl) (.addS (hlim (by rw [hl2]; show 1 + uri.length + 2 ≤ _; lia))))) (asgs_one rfl (asg_Name rfl))) hz))
end Mine
end
section
open PySem PySem.W PyProof.Rows PySem.SeqAt Mine.Ev Mine.Prm Mine.PrF
set_option maxRecDepth 100000
set_option maxHeartbeats 400000
namespace Mine
variable {s : S6} {G G' : Nat → AObj} {n n' : Nat} {P : Params} {sa : Addr} {is : List Int} {p : PS} {c : Nat}

theorem add_lists {G : Nat → AObj} {xs ys : List V} (hn : 13 ≤ n) (hl : xs.length + ys.length ≤ 100000) : Bin (mk6 s (upd (upd G n (.list xs)) (n + 1) (.list ys)) (n + 2)) .Add (.ref n) (.ref (n + 1)) (.ref (n + 2)) (mk6 s (upd (upd (upd G n (.list xs)) (n + 1) (.list ys)) (n + 2) (.list (xs ++ ys))) (n + 3)) := by
  have e1 : (mk6 s (upd (upd G n (.list xs)) (n + 1) (.list ys)) (n + 2)).f n = .list xs := (mk6_at (.inr (.inr (.inr hn)))).trans ((upd_ne (by lia)).trans upd_at)
  have e2 : (mk6 s (upd (upd G n (.list xs)) (n + 1) (.list ys)) (n + 2)).f (n + 1) = .list ys := (mk6_at (.inr (.inr (.inr (by lia))))).trans upd_at
  exact .addL e1 e2 (Nat.le_trans hl (by decide)) (mk6_alloc (by lia))
theorem idx_top {G : Nat → AObj} {xs : List V} {v : V} (hn : 13 ≤ n) (h : xs.getLast? = some v) : index (mk6 s (upd G n (.list xs)) (n + 1)) (.ref n) (.int (-1)) = some v := by
  have e1 : (mk6 s (upd G n (.list xs)) (n + 1)).f n = .list xs := (mk6_at (.inr (.inr (.inr hn)))).trans upd_at
  rw [idx_list e1]; exact idx_last h

theorem lBC {k mv : Nat} {m r : Int} {uri t due : Str} {a : Nat} {fs : List Fr} (hn : 13 ≤ n) (hp : s.path = pathV fs) (hfs : fs.length ≤ 1000) :
    ∃ G' n', Grow n G n' G' ∧ ∀ fl lc h, Ev (pe6 P sa is) (k + 70) (.xs sc_law ((bS P).drop 5) (L5 sa due mv m r uri a t (near fs) (scopeOf fs)) (mk6 s G' n')) (.f fl lc h) → Ev (pe6 P sa is) (k + 70) (.xs sc_law ((bS P).drop 3) (L3 sa due mv m r uri a t) (mk6 s G n)) (.f fl lc h) := by
  have hpl : (pathV fs).length ≤ 1000 := by unfold pathV; rw [List.length_reverse, List.length_map]; exact hfs
  let N1 := (pathV fs).flatMap gNear
  let N2 := (pathV fs).flatMap gScope
  have hN1 : N1.length ≤ 1000 := Nat.le_trans (fm_len gNear_le _) hpl
  have hN2 : N2.length ≤ 1000 := Nat.le_trans (fm_len gScope_le _) hpl
  let G1 := upd G n (.list [.str sE])
  let G2 := upd G1 (n + 1) (.list N1)
  let G3 := upd G2 (n + 2) (.list ([.str sE] ++ N1))
  have al1 : (mk6 s G n).alloc (.list [.str sE]) = mk6 s G1 (n + 1) := mk6_alloc hn
  have al2 : (mk6 s G1 (n + 1)).alloc (.list N1) = mk6 s G2 (n + 2) := mk6_alloc (by lia)
  have ad1 : Bin (mk6 s G2 (n + 2)) .Add (.ref n) (.ref (n + 1)) (.ref (n + 2)) (mk6 s G3 (n + 3)) := add_lists hn (by show 1 + N1.length ≤ _; lia)
  have ix1 : index (mk6 s G3 (n + 3)) (.ref (n + 2)) (.int (-1)) = some (.str (near fs)) := idx_top (by lia) (near_last fs)
  let G4 := upd G3 (n + 3) (.list [.str sE])
  let G5 := upd G4 (n + 4) (.list N2)
  let G6 := upd G5 (n + 5) (.list ([.str sE] ++ N2))
  have al3 : (mk6 s G3 (n + 3)).alloc (.list [.str sE]) = mk6 s G4 (n + 4) := mk6_alloc (by lia)
  have al4 : (mk6 s G4 (n + 4)).alloc (.list N2) = mk6 s G5 (n + 5) := mk6_alloc (by lia)
  have ad2 : Bin (mk6 s G5 (n + 5)) .Add (.ref (n + 3)) (.ref (n + 4)) (.ref (n + 5)) (mk6 s G6 (n + 6)) := add_lists (by lia) (by show 1 + N2.length ≤ _; lia)
  have ix2 : index (mk6 s G6 (n + 6)) (.ref (n + 5)) (.int (-1)) = some (.str (scopeOf fs)) := idx_top (by lia) (scope_last fs)
  have it1 : items (mk6 s G1 (n + 1)) (.ref 2) = some (pathV fs, some 2) := by
    show some (s.path, some 2) = _; rw [hp]
  have it2 : items (mk6 s G4 (n + 4)) (.ref 2) = some (pathV fs, some 2) := by
    show some (s.path, some 2) = _; rw [hp]
  have l1 : N1.length ≤ lim := Nat.le_trans hN1 (by decide)
  have l2 : N2.length ≤ lim := Nat.le_trans hN2 (by decide)
  have gr : Grow n G (n + 6) G6 := (((((Grow.upd (o := .list [.str sE])).trans Grow.upd).trans Grow.upd).trans Grow.upd).trans Grow.upd).trans Grow.upd
  refine ⟨G6, n + 6, gr, fun fl lc h hz => ?_⟩
  exact xs_cons (xv_Asg rfl (fun _ => rfl) (ev_Idx rfl (ev_Bin (ev_List (evL_cons rfl (ev_Const rfl) evL_nil) (leR rfl) al1) (ev_Comp (ev_LC rfl rfl (ev_Name rfl) it1 rfl (cl_flat (f := gNear) (fun x hx => by
      obtain ⟨f, rfl⟩ := mem_path hx
      by_cases h : f.uri ≠ sP
      · rw [show gNear (frV f) = [.str f.uri] from if_pos h]
        exact ⟨_, rfl, .inl ⟨ifs_one (tv_Cmp rfl (ev_Name rfl) (ev_Const rfl) (cmp_neT h)), in_el (ev_Name rfl)⟩⟩
      · rw [show gNear (frV f) = [] from if_neg h]
        exact ⟨_, rfl, .inr ⟨ifs_one (tv_Cmp rfl (ev_Name rfl) (ev_Const rfl) (cmp_neF (Decidable.not_not.mp h))), rfl⟩⟩) stands_refl) l1 al2)) ad1) (ev_Neg (ev_Const rfl)) ix1) (asgs_one rfl (asg_Name rfl))) (xs_cons (xv_Asg rfl (fun _ => rfl) (ev_Idx rfl (ev_Bin (ev_List (evL_cons rfl (ev_Const rfl) evL_nil) (leR rfl) al3) (ev_Comp (ev_LC rfl rfl (ev_Name rfl) it2 rfl (cl_flat (f := gScope) (fun x hx => by
      obtain ⟨f, rfl⟩ := mem_path hx
      exact ⟨_, rfl, .inl ⟨ifs_nil, in_el (ev_Name rfl)⟩⟩) stands_refl) l2 al4)) ad2) (ev_Neg (ev_Const rfl)) ix2) (asgs_one rfl (asg_Name rfl))) hz)
end Mine
end
section
open PySem PySem.W PyProof.Rows PySem.SeqAt Mine.Ev Mine.Prm Mine.PrF
set_option maxRecDepth 100000
set_option maxHeartbeats 400000
namespace Mine
variable {s : S6} {G G' : Nat → AObj} {n n' : Nat} {P : Params} {sa : Addr} {is : List Int} {p : PS} {c : Nat}
theorem at_startns : attr (pe6 P sa is) (mk6 s G n) "start_ns" (.ref 4) = some (.mt 113 (.ref 4)) := by kernel_rfl
theorem at_startM : attr (pe6 P sa is) (mk6 s G n) "start" (.ref 4) = some (.mt 120 (.ref 4)) := by kernel_rfl
theorem at_end : attr (pe6 P sa is) (mk6 s G n) "end" (.ref 4) = some (.mt 133 (.ref 4)) := by kernel_rfl
theorem at_data : attr (pe6 P sa is) (mk6 s G n) "data" (.ref 4) = some (.mt 97 (.ref 4)) := by kernel_rfl
theorem tell_path {fs : List Fr} {x : Str × Str} : pathV (tellF fs x) = pathV fs := by cases fs <;> rfl

/-- what holds once the scope is told -/
structure Dr (p p' : PS) (uri sc : Str) : Prop where
  ok : Uok sc
  eq : uri ≠ sP → sc = uri
  told : (sc, sE) ∈ NLs p'.t0 p'.fs ∨ (sc = sE ∧ ∀ g ∈ p'.fs, g.scope = sE)
  nr : uri ≠ sP → near p'.fs = uri ∨ (uri, sE) ∈ NLs p'.t0 p'.fs
  near : near p'.fs = near p.fs
  any : anyU p'.fs = anyU p.fs
  path : pathV p'.fs = pathV p.fs
  txt : p'.txt = p.txt

theorem dr_tell {p' : PS} {uri u : Str} (hu : Uok u) (h : uri ≠ sP → u = uri) (e1 : p'.fs = tellF p.fs (u, sE)) (e2 : p'.t0 = tellT p.t0 p.fs (u, sE)) (e3 : p'.txt = p.txt) : Dr p p' uri u :=
  ⟨hu, h, .inl (by rw [e1, e2]; exact tell_mem), fun hp => .inr (by rw [← h hp, e1, e2]; exact tell_mem), by rw [e1]; exact tell_near, by rw [e1]; exact tell_any, by rw [e1]; exact tell_path, e3⟩
theorem dr_keep {uri : Str} (hg : Good p.t0 p.fs) (h : uri ≠ sP → scopeOf p.fs = uri) : Dr p p uri (scopeOf p.fs) :=
  ⟨scope_ok hg, h, told_or hg, fun hp => by
    rcases told_or hg with q | ⟨q, q'⟩
    · rw [h hp] at q; exact .inr q
    · exact .inl (by rw [near_empty hg q', ← h hp, q]), rfl, rfl, rfl, rfl⟩

theorem lD {k mv : Nat} {m r : Int} {uri t due : Str} {a : Nat} {b : Bool} (R : Rel p c s G n) (hc : c ≤ 400) (hu : Uall uri) (ha : okId a ∧ a < n ∧ G a = .dict (akv b)) :
    ∃ p' s' G' n' sc', Rel p' (c + 1) s' G' n' ∧ n ≤ n' ∧ G' a = .dict (akv b) ∧ Dr p p' uri sc' ∧ s'.seen = s.seen ∧ s'.path = s.path ∧ (∀ i, i < n → i ≠ 10 → (∀ f ∈ p.fs, i ≠ f.m) → G' i = G i) ∧ p'.fs.map Fr.m = p.fs.map Fr.m ∧
      ∀ fl lc h, Ev (pe6 P sa is) (k + 70) (.xs sc_law ((bS P).drop 6) (L5 sa due mv m r uri a t (near p.fs) sc') (mk6 s' G' n')) (.f fl lc h) → Ev (pe6 P sa is) (k + 70) (.xs sc_law ((bS P).drop 5) (L5 sa due mv m r uri a t (near p.fs) (scopeOf p.fs)) (mk6 s G n)) (.f fl lc h) := by
  have h13 := R.n13
  by_cases hp : uri = sP
  · by_cases hr : r / 12 % 4 > 0
    · -- told for the prefixed element
      have hw : ∃ w, Uok w ∧ atIdx [.str "", .str "d", .str "e"] (r / 12 % 4 - 1) = some (.str w) := by
        have : r / 12 % 4 = 1 ∨ r / 12 % 4 = 2 ∨ r / 12 % 4 = 3 := by lia
        rcases this with h | h | h <;> rw [h]
        · exact ⟨"", .inl rfl, rfl⟩
        · exact ⟨"d", .inr (.inl rfl), rfl⟩
        · exact ⟨"e", .inr (.inr rfl), rfl⟩
      obtain ⟨w, hwu, hwi⟩ := hw
      let G1 := upd G n (.list [.str "", .str "d", .str "e"])
      have al1 : (mk6 s G n).alloc (.list [.str "", .str "d", .str "e"]) = mk6 s G1 (n + 1) := mk6_alloc h13
      have hidx : index (mk6 s G1 (n + 1)) (.ref n) (.int (r / 12 % 4 - 1)) = some (.str w) := by
        have : (mk6 s G1 (n + 1)).f n = .list [.str "", .str "d", .str "e"] := (mk6_at (.inr (.inr (.inr h13)))).trans upd_at
        rw [idx_list this]; exact hwi
      have gr : Grow n G (n + 1) G1 := Grow.upd
      obtain ⟨p', s', G', h1, h2, h3, h4, h5, h6, h7, h8, h9, h10⟩ := op_ns (P := P) (sa := sa) (is := is) (k := k + 16) (R.grow gr.1 gr.2) hc hwu
      have hg : Cmp (mk6 s G n) .Gt (.int (r / 12 % 4)) (.int 0) true := by
        exact decide_eq_true hr ▸ .gt
      have hga : G' a = .dict (akv b) := h8 a _ ((gr.2 a ha.2.1).trans ha.2.2)
      refine ⟨p', s', G', n + 1, w, h2, gr.1, hga, dr_tell hwu (fun h => absurd hp h) h3 h4 h5, h6, h7, fun i hi a1 a2 => (h9 i a1 a2).trans (gr.2 i hi), h10, fun fl lc h hz => ?_⟩
      exact xs_cons (xv_If (tv_Bool (test_stop (tv_Cmp rfl (ev_Name rfl) (ev_Const rfl) (cmp_neF hp)) rfl)) (xs_cons (xv_If (tv_Bool (test_go (tv_Cmp rfl (ev_Name rfl) (ev_Const rfl) (cmp_eqT hp)) rfl (test_go (tv_Cmp rfl (ev_Bin (ev_Bin (ev_Name rfl) (ev_Const rfl) (binR rfl)) (ev_Const rfl) (binR rfl)) (ev_Const rfl) hg) rfl test_nil)))
        (xs_cons (xv_Asg rfl (fun _ => rfl) (ev_Idx rfl (ev_List (evL_cons rfl (ev_Const rfl) (evL_cons rfl (ev_Const rfl) (evL_cons rfl (ev_Const rfl) evL_nil))) (leR rfl) al1) (ev_Bin (ev_Bin (ev_Bin (ev_Name rfl) (ev_Const rfl) (binR rfl)) (ev_Const rfl) (binR rfl)) (ev_Const rfl) (binR rfl)) hidx) (asgs_one rfl (asg_Name rfl))) (xs_cons (xv_Expr rfl (ev_CallA rfl rfl (by decide) (ev_Name rfl) at_startns (ca_mt (fn_startns P sa is)) (evL_cons rfl (ev_Const rfl) (evL_cons rfl (ev_Name rfl) evL_nil)) evKw_nil h1)) xs_nil))) xs_nil)) hz
    · -- not told
      have hg : Cmp (mk6 s G n) .Gt (.int (r / 12 % 4)) (.int 0) false := by
        exact decide_eq_false hr ▸ .gt
      refine ⟨p, s, G, n, scopeOf p.fs, R.more (Nat.le_succ _), Nat.le_refl _, ha.2.2, dr_keep R.good (fun h => absurd hp h), rfl, rfl, fun _ _ _ _ => rfl, rfl, fun fl lc h hz => ?_⟩
      exact xs_cons (xv_If (tv_Bool (test_stop (tv_Cmp rfl (ev_Name rfl) (ev_Const rfl) (cmp_neF hp)) rfl)) (xs_cons (xv_If (tv_Bool (test_go (tv_Cmp rfl (ev_Name rfl) (ev_Const rfl) (cmp_eqT hp)) rfl (test_stop (tv_Cmp rfl (ev_Bin (ev_Bin (ev_Name rfl) (ev_Const rfl) (binR rfl)) (ev_Const rfl) (binR rfl)) (ev_Const rfl) hg) rfl))) xs_nil) xs_nil)) hz
  · have huo := hu.cases hp
    obtain ⟨p', s', G', h1, h2, h3, h4, h5, h6, h7, h8, h9, h10⟩ := op_ns (P := P) (sa := sa) (is := is) (k := k + 17) R hc huo
    have hga : G' a = .dict (akv b) := h8 a _ ha.2.2
    by_cases hs : scopeOf p.fs = uri
    · have hcm : Cmp (mk6 s G n) .NotEq (.str (scopeOf p.fs)) (.str uri) false := cmp_neF hs
      by_cases hr : (r / 12 % 2 == 1) = true
      · have hg : Cmp (mk6 s G n) .Eq (.int (r / 12 % 2)) (.int 1) true := by
          exact hr ▸ .eq .int
        refine ⟨p', s', G', n, uri, h2, Nat.le_refl _, hga, dr_tell huo (fun _ => rfl) h3 h4 h5, h6, h7, fun i _ a1 a2 => h9 i a1 a2, h10, fun fl lc h hz => ?_⟩
        exact xs_cons (xv_If (tv_Bool (test_go (tv_Cmp rfl (ev_Name rfl) (ev_Const rfl) (cmp_neT hp)) rfl (test_go (tv_Bool (test_go (tv_Cmp rfl (ev_Name rfl) (ev_Name rfl) hcm) rfl (test_stop (tv_Cmp rfl (ev_Bin (ev_Bin (ev_Name rfl) (ev_Const rfl) (binR rfl)) (ev_Const rfl) (binR rfl)) (ev_Const rfl) hg) rfl))) rfl test_nil)))
          (xs_cons (xv_Asg rfl (fun _ => rfl) (ev_Name rfl) (asgs_one rfl (asg_Name rfl))) (xs_cons (xv_Expr rfl (ev_CallA rfl rfl (by decide) (ev_Name rfl) at_startns (ca_mt (fn_startns P sa is)) (evL_cons rfl (ev_Const rfl) (evL_cons rfl (ev_Name rfl) evL_nil)) evKw_nil h1)) xs_nil))) hz
      · have hr' : (r / 12 % 2 == 1) = false := by simpa using hr
        have hg : Cmp (mk6 s G n) .Eq (.int (r / 12 % 2)) (.int 1) false := by
          exact hr' ▸ .eq .int
        refine ⟨p, s, G, n, scopeOf p.fs, R.more (Nat.le_succ _), Nat.le_refl _, ha.2.2, dr_keep R.good (fun _ => hs), rfl, rfl, fun _ _ _ _ => rfl, rfl, fun fl lc h hz => ?_⟩
        exact xs_cons (xv_If (tv_Bool (test_go (tv_Cmp rfl (ev_Name rfl) (ev_Const rfl) (cmp_neT hp)) rfl (test_stop (tv_Bool (test_go (tv_Cmp rfl (ev_Name rfl) (ev_Name rfl) hcm) rfl (test_go (tv_Cmp rfl (ev_Bin (ev_Bin (ev_Name rfl) (ev_Const rfl) (binR rfl)) (ev_Const rfl) (binR rfl)) (ev_Const rfl) hg) rfl test_nil))) rfl)))
          (xs_cons (xv_If (tv_Bool (test_stop (tv_Cmp rfl (ev_Name rfl) (ev_Const rfl) (cmp_eqF hp)) rfl)) xs_nil) xs_nil)) hz
    · have hcm : Cmp (mk6 s G n) .NotEq (.str (scopeOf p.fs)) (.str uri) true := cmp_neT hs
      refine ⟨p', s', G', n, uri, h2, Nat.le_refl _, hga, dr_tell huo (fun _ => rfl) h3 h4 h5, h6, h7, fun i _ a1 a2 => h9 i a1 a2, h10, fun fl lc h hz => ?_⟩
      exact xs_cons (xv_If (tv_Bool (test_go (tv_Cmp rfl (ev_Name rfl) (ev_Const rfl) (cmp_neT hp)) rfl (test_go (tv_Bool (test_stop (tv_Cmp rfl (ev_Name rfl) (ev_Name rfl) hcm) rfl)) rfl test_nil)))
        (xs_cons (xv_Asg rfl (fun _ => rfl) (ev_Name rfl) (asgs_one rfl (asg_Name rfl))) (xs_cons (xv_Expr rfl (ev_CallA rfl rfl (by decide) (ev_Name rfl) at_startns (ca_mt (fn_startns P sa is)) (evL_cons rfl (ev_Const rfl) (evL_cons rfl (ev_Name rfl) evL_nil)) evKw_nil h1)) xs_nil))) hz
end Mine
end
section
open PySem PySem.W PyProof.Rows PySem.SeqAt Mine.Ev Mine.Prm Mine.PrF
set_option maxRecDepth 100000
set_option maxHeartbeats 400000
namespace Mine
variable {s : S6} {G G' : Nat → AObj} {n n' : Nat} {P : Params} {sa : Addr} {is : List Int} {p : PS} {c : Nat}
theorem test_last {pe : Pe} {n : Nat} {sc : Sc} {loc : Loc} {a : Expr} {H H1 : Hp} {t : Bool} (h : Ev pe n (.t sc loc a H) (.b t H1)) : Ev pe n (.test sc loc .And [a] H) (.b t H1) := by
  cases t
  · exact test_stop h rfl
  · exact test_go h rfl test_nil
theorem cmp_dict {G : Nat → AObj} {a : Nat} {b : Bool} (hn : 13 ≤ n) (ha : okId a) (han : a < n) (hG : G a = .dict (akv b)) : Cmp (mk6 s (upd G n (.dict [])) (n + 1)) .NotEq (.ref a) (.ref n) b := by
  have e1 : (mk6 s (upd G n (.dict [])) (n + 1)).f a = .dict (akv b) := (mk6_at ha).trans ((upd_ne (by lia)).trans hG)
  have e2 : (mk6 s (upd G n (.dict [])) (n + 1)).f n = .dict [] := (mk6_at (.inr (.inr (.inr hn)))).trans upd_at
  have := Cmp.ne (EqV.dict0 e1 e2)
  cases b <;> exact this

theorem add_str {H : Hp} {x y : Str} (h : x.length + y.length ≤ lim) : Bin H .Add (.str x) (.str y) (.str (x ++ y)) H := .addS h
theorem d1_eq {uri : Str} : d1 uri = ("<" : Str) ++ (if uri = sP then ("p:a" : Str) else ("a" : Str)) := by
  unfold d1; split <;> kernel_rfl
theorem d4_eq {b : Bool} : d4 b = (if b then (" p:x=\"1\"" : Str) else ("" : Str)) ++ (">" : Str) := by
  cases b <;> kernel_rfl
theorem add_d1 {H : Hp} {x uri : Str} (h : x.length + (d1 uri).length ≤ lim) : Bin H .Add (.str x) (.str (("<" : Str) ++ (if uri = sP then ("p:a" : Str) else ("a" : Str)))) (.str (x ++ d1 uri)) H := by
  rw [← d1_eq]; exact add_str h
theorem add_d4 {H : Hp} {x : Str} {b : Bool} (h : x.length + (d4 b).length ≤ lim) : Bin H .Add (.str x) (.str ((if b then (" p:x=\"1\"" : Str) else ("" : Str)) ++ (">" : Str))) (.str (x ++ d4 b)) H := by
  rw [← d4_eq]; exact add_str h
theorem lE7 {k mv : Nat} {m r : Int} {uri t due ne sc : Str} {a : Nat} {b : Bool} (hn : 13 ≤ n) (ha : okId a ∧ a < n ∧ G a = .dict (akv b)) :
    ∃ G' n', Grow n G n' G' ∧ ∀ fl lc h, Ev (pe6 P sa is) (k + 70) (.xs sc_law ((bS P).drop 8) (LF sa due mv m r uri a t ne sc (usedOf uri b)) (mk6 s G' n')) (.f fl lc h) → Ev (pe6 P sa is) (k + 70) (.xs sc_law ((bS P).drop 7) (L5 sa due mv m r uri a t ne sc) (mk6 s G n)) (.f fl lc h) := by
  by_cases hp : uri = sP
  · have hus : usedOf uri b = true := by unfold usedOf; rw [decide_eq_true hp]; rfl
    rw [hus]
    refine ⟨G, n, ⟨Nat.le_refl _, fun _ _ => rfl⟩, fun fl lc h hz => ?_⟩
    exact xs_cons (xv_Asg rfl (fun _ => rfl) (ev_Bool (bool_stop (ev_Cmp rfl (ev_Name rfl) (ev_Const rfl) (cmp_eqT hp)) rfl rfl)) (asgs_one rfl (asg_Name rfl))) hz
  · have hus : usedOf uri b = b := by unfold usedOf; rw [decide_eq_false hp]; rfl
    rw [hus]
    have al : (mk6 s G n).alloc (.dict []) = mk6 s (upd G n (.dict [])) (n + 1) := mk6_alloc hn
    have hcm := cmp_dict (s := s) (G := G) hn ha.1 ha.2.1 ha.2.2
    refine ⟨upd G n (.dict []), n + 1, Grow.upd, fun fl lc h hz => ?_⟩
    exact xs_cons (xv_Asg rfl (fun _ => rfl) (ev_Bool (bool_go (ev_Cmp rfl (ev_Name rfl) (ev_Const rfl) (cmp_eqF hp)) rfl rfl (bool_one (ev_Cmp rfl (ev_Name rfl) (ev_Dict0 al) hcm)))) (asgs_one rfl (asg_Name rfl))) hz

theorem lE8 {k mv : Nat} {m r : Int} {uri t due sc : Str} {a : Nat} {us : Bool} {fs : List Fr} (hu : Uall uri) (hl : due.length ≤ 100000) :
    ∀ fl lc h, Ev (pe6 P sa is) (k + 70) (.xs sc_law ((bS P).drop 10) (LF sa (due ++ d1 uri ++ d2 uri fs) mv m r uri a t (near fs) sc us) (mk6 s G n)) (.f fl lc h) → Ev (pe6 P sa is) (k + 70) (.xs sc_law ((bS P).drop 8) (LF sa due mv m r uri a t (near fs) sc us) (mk6 s G n)) (.f fl lc h) := by
  intro fl lc h hz
  have hlim : ∀ {x : Nat}, x ≤ 200000 → x ≤ lim := fun h => Nat.le_trans h (by decide)
  have hul : uri.length ≤ 1 := by rcases hu with h | h; exact h.len; rw [h]; decide
  have z1 := d1_len (uri := uri)
  have z2 := d2_len (r := fs) hu
  have e1 : (due ++ d1 uri).length = due.length + (d1 uri).length := strLen_append _ _
  have e2 : ((" xmlns=\"" : Str) ++ uri).length = 8 + uri.length := by rw [strLen_append]; rfl
  exact xs_cons (xv_Aug (v := .str (due ++ d1 uri)) rfl rfl rfl (ev_Bin (ev_Const rfl) (ev_If (t := decide (uri = sP)) (v := .str (if uri = sP then "p:a" else "a")) (H2 := mk6 s G n) (tv_Cmp rfl (ev_Name rfl) (ev_Const rfl) (by
      by_cases h : uri = sP
      · rw [decide_eq_true h]; exact cmp_eqT h
      · rw [decide_eq_false h]; exact cmp_eqF h)) (by
      by_cases h : uri = sP
      · rw [decide_eq_true h, if_pos h]; exact ev_Const rfl
      · rw [decide_eq_false h, if_neg h]; exact ev_Const rfl)) (.addS (by
        by_cases h : uri = sP
        · rw [if_pos h]; exact leR rfl
        · rw [if_neg h]; exact leR rfl))) (add_d1 (hlim (by lia)))) (xs_cons (xv_Aug (v := .str (due ++ d1 uri ++ d2 uri fs)) rfl rfl rfl (ev_If (t := decide (uri ≠ sP ∧ uri ≠ near fs)) (v := .str (d2 uri fs)) (H2 := mk6 s G n) (tv_Bool (by
      by_cases h : uri = sP
      · rw [decide_eq_false (fun q => q.1 h)]
        exact test_stop (tv_Cmp rfl (ev_Name rfl) (ev_Const rfl) (cmp_neF h)) rfl
      · by_cases h2 : uri = near fs
        · rw [decide_eq_false (fun q => q.2 h2)]
          exact test_go (tv_Cmp rfl (ev_Name rfl) (ev_Const rfl) (cmp_neT h)) rfl (test_stop (tv_Cmp rfl (ev_Name rfl) (ev_Name rfl) (cmp_neF h2)) rfl)
        · rw [decide_eq_true ⟨h, h2⟩]
          exact test_go (tv_Cmp rfl (ev_Name rfl) (ev_Const rfl) (cmp_neT h)) rfl (test_go (tv_Cmp rfl (ev_Name rfl) (ev_Name rfl) (cmp_neT h2)) rfl test_nil))) (by
      by_cases h : uri ≠ sP ∧ uri ≠ near fs
      · rw [decide_eq_true h, show d2 uri fs = " xmlns=\"" ++ uri ++ "\"" from if_pos h]
        exact ev_Bin (ev_Bin (ev_Const rfl) (ev_Name rfl) (.addS (hlim (by show 8 + uri.length ≤ _; lia)))) (ev_Const rfl) (.addS (hlim (by rw [e2]; show 8 + uri.length + 1 ≤ _; lia)))
      · rw [decide_eq_false h, show d2 uri fs = "" from if_neg h]; exact ev_Const rfl)) (.addS (hlim (by rw [e1]; lia)))) hz)

noncomputable def usedL (fs : List Fr) : List V := (pathV fs).flatMap gUsed
theorem bools_map : ∀ (l : List Bool), boolsOf (l.map .bool) = some l
  | [] => rfl
  | a :: l => congrArg (Option.map (a :: ·)) (bools_map l)
theorem usedL_eq : ∀ (fs : List Fr), usedL fs = (fs.map Fr.used).reverse.map .bool
  | [] => rfl
  | f :: r => by
    unfold usedL
    rw [pathV_cons, List.flatMap_append, show [frV f].flatMap gUsed = [.bool f.used] from rfl, show (pathV r).flatMap gUsed = usedL r from rfl, usedL_eq r]
    simp
theorem any_mem : ∀ (fs : List Fr), anyU fs = (fs.map Fr.used).contains true
  | [] => rfl
  | f :: r => by
    show (f.used || anyU r) = _
    rw [any_mem r, List.map_cons, List.contains_cons]
    cases f.used <;> rfl
theorem cmp_used {G : Nat → AObj} {fs : List Fr} (hn : 13 ≤ n) : Cmp (mk6 s (upd G n (.list (usedL fs))) (n + 1)) .NotIn (.bool true) (.ref n) (!anyU fs) := by
  have e2 : (mk6 s (upd G n (.list (usedL fs))) (n + 1)).f n = .list (usedL fs) := (mk6_at (.inr (.inr (.inr hn)))).trans upd_at
  have := Cmp.nin (InV.lbool (x := true) e2 (usedL_eq fs ▸ bools_map _))
  rw [List.contains_reverse] at this
  rw [any_mem]; exact this

theorem lE10 {k mv : Nat} {m r : Int} {uri t due ne sc : Str} {a : Nat} {us b : Bool} {fs : List Fr} (hn : 13 ≤ n) (hl : due.length ≤ 150000) (hp : s.path = pathV fs) (hfs : fs.length ≤ 1000) (ha : okId a ∧ a < n ∧ G a = .dict (akv b)) :
    ∃ G' n', Grow n G n' G' ∧ ∀ fl lc h, Ev (pe6 P sa is) (k + 70) (.xs sc_law ((bS P).drop 12) (LF sa (due ++ d3 us fs ++ d4 b) mv m r uri a t ne sc us) (mk6 s G' n')) (.f fl lc h) → Ev (pe6 P sa is) (k + 70) (.xs sc_law ((bS P).drop 10) (LF sa due mv m r uri a t ne sc us) (mk6 s G n)) (.f fl lc h) := by
  have hlim : ∀ {x : Nat}, x ≤ 200000 → x ≤ lim := fun h => Nat.le_trans h (by decide)
  have z3 := d3_len (used := us) (r := fs)
  have z4 := d4_len (b := b)
  have e1 : (due ++ d3 us fs).length = due.length + (d3 us fs).length := strLen_append _ _
  have hpl : (pathV fs).length ≤ 1000 := by unfold pathV; rw [List.length_reverse, List.length_map]; exact hfs
  have hul : (usedL fs).length ≤ lim := Nat.le_trans (Nat.le_trans (fm_len gUsed_le _) hpl) (by decide)
  -- the last text
  have last : ∀ {G : Nat → AObj} {n : Nat} (_ : 13 ≤ n) (_ : okId a ∧ a < n ∧ G a = .dict (akv b)), ∃ G' n', Grow n G n' G' ∧ ∀ fl lc h, Ev (pe6 P sa is) (k + 70) (.xs sc_law ((bS P).drop 12) (LF sa (due ++ d3 us fs ++ d4 b) mv m r uri a t ne sc us) (mk6 s G' n')) (.f fl lc h) → Ev (pe6 P sa is) (k + 70) (.xs sc_law ((bS P).drop 11) (LF sa (due ++ d3 us fs) mv m r uri a t ne sc us) (mk6 s G n)) (.f fl lc h) := by
    intro G n hn ha
    have al : (mk6 s G n).alloc (.dict []) = mk6 s (upd G n (.dict [])) (n + 1) := mk6_alloc hn
    have hcm := cmp_dict (s := s) (G := G) hn ha.1 ha.2.1 ha.2.2
    refine ⟨upd G n (.dict []), n + 1, Grow.upd, fun fl lc h hz => ?_⟩
    exact xs_cons (xv_Aug (v := .str (due ++ d3 us fs ++ d4 b)) rfl rfl rfl (ev_Bin (ev_If (t := b) (v := .str (if b then " p:x=\"1\"" else "")) (H2 := mk6 s (upd G n (.dict [])) (n + 1)) (tv_Cmp rfl (ev_Name rfl) (ev_Dict0 al) hcm) (by
      cases b
      · exact ev_Const rfl
      · exact ev_Const rfl)) (ev_Const rfl) (.addS (by cases b <;> exact leR rfl))) (add_d4 (hlim (by lia)))) hz
  cases us with
  | false =>
    have e : d3 false fs = "" := if_neg (fun q => by cases q.1)
    obtain ⟨G', n', g, h0⟩ := last hn ha
    refine ⟨G', n', g, fun fl lc h hz => ?_⟩
    have := h0 _ _ _ hz
    exact xs_cons (xv_Aug (v := .str (due ++ d3 false fs)) rfl rfl rfl (ev_If (t := false) (v := .str (d3 false fs)) (H2 := mk6 s G n) (tv_Bool (test_stop (tv_Gen rfl (ev_Name rfl) rfl) rfl)) (by rw [e]; exact ev_Const rfl)) (.addS (hlim (by lia)))) this
  | true =>
    let G1 := upd G n (.list (usedL fs))
    have al : (mk6 s G n).alloc (.list (usedL fs)) = mk6 s G1 (n + 1) := mk6_alloc hn
    have hcm := cmp_used (s := s) (G := G) (fs := fs) hn
    have it1 : items (mk6 s G n) (.ref 2) = some (pathV fs, some 2) := by
      show some (s.path, some 2) = _; rw [hp]
    have gr : Grow n G (n + 1) G1 := Grow.upd
    obtain ⟨G', n', g, h0⟩ := last (G := G1) (n := n + 1) (by lia) ⟨ha.1, by lia, (gr.2 a ha.2.1).trans ha.2.2⟩
    refine ⟨G', n', gr.trans g, fun fl lc h hz => ?_⟩
    have := h0 _ _ _ hz
    exact xs_cons (xv_Aug (v := .str (due ++ d3 true fs)) rfl rfl rfl (ev_If (t := !anyU fs) (v := .str (d3 true fs)) (H2 := mk6 s G1 (n + 1)) (tv_Bool (test_go (tv_Gen rfl (ev_Name rfl) rfl) rfl (test_last (tv_Cmp rfl (ev_Const rfl) (ev_Comp (ev_LC rfl rfl (ev_Name rfl) it1 rfl (cl_flat (f := gUsed) (fun x hx => by
        obtain ⟨f, rfl⟩ := mem_path hx
        exact ⟨_, rfl, .inl ⟨ifs_nil, in_el (ev_Name rfl)⟩⟩) stands_refl) hul al)) hcm)))) (by
        cases hb : anyU fs
        · rw [show d3 true fs = " xmlns:p=\"p\"" from if_pos ⟨rfl, hb⟩]; exact ev_Const rfl
        · rw [show d3 true fs = "" from if_neg (fun q => by rw [hb] at q; cases q.2)]; exact ev_Const rfl)) (.addS (hlim (by lia)))) this

theorem lE {k mv : Nat} {m r : Int} {uri due sc : Str} {a : Nat} {b : Bool} (R : Rel p c s G n) (hc : c ≤ 400) (hu : Uall uri) (hsc : Uok sc) (h1 : uri ≠ sP → sc = uri) (h2 : (sc, sE) ∈ NLs p.t0 p.fs ∨ (sc = sE ∧ ∀ g ∈ p.fs, g.scope = sE)) (h3 : uri ≠ sP → near p.fs = uri ∨ (uri, sE) ∈ NLs p.t0 p.fs)
    (ha : okId a ∧ a < n ∧ G a = .dict (akv b)) (hdue : due = p.txt) (hpath : s.path = pathV p.fs) :
    ∃ p' s' G' n' f us, Rel p' (c + 1) s' G' n' ∧ n ≤ n' ∧ (∀ i, i < n → G' i = G i) ∧ p'.fs = f :: p.fs ∧ s'.path = pathV p'.fs ∧ s'.seen = true ∧ n ≤ f.m ∧
      Ev (pe6 P sa is) (k + 70) (.xs sc_law ((bS P).drop 6) (L5 sa due mv m r uri a (tagOf uri) (near p.fs) sc) (mk6 s G n)) (.f .next (LF sa p'.txt mv m r uri a (tagOf uri) (near p.fs) sc us) (mk6 s' G' n')) := by
  have h13 := R.n13
  have hlen : due.length ≤ 50000 := by have := R.z4; rw [hdue]; lia
  have hfl : p.fs.length ≤ 1000 := by have := R.z2; lia
  let G1 := upd G n (.dict (akv b))
  have gr1 : Grow n G (n + 1) G1 := Grow.upd
  have hae : (mk6 s G n).f a = .dict (akv b) := (mk6_at ha.1).trans ha.2.2
  have al1 : (mk6 s G n).alloc (.dict (akv b)) = mk6 s G1 (n + 1) := mk6_alloc h13
  obtain ⟨p1, s1, G2, n2, f, c1, c2, c3, c4, c5, c6, c7, c8, c9, c10, c11, c12⟩ := op_start (P := P) (sa := sa) (is := is) (k := k + 4) (b := b) (a := n) (R.grow gr1.1 gr1.2) hc hu hsc h1 h2 h3 ⟨.inr (.inr (.inr h13)), Nat.lt_succ_self _, upd_at⟩
  have gr2 : Grow n G n2 G2 := gr1.trans ⟨c2, c3⟩
  have ha2 : okId a ∧ a < n2 ∧ G2 a = .dict (akv b) := ⟨ha.1, Nat.lt_of_lt_of_le ha.2.1 gr2.1, (gr2.2 a ha.2.1).trans ha.2.2⟩
  have hn2 : 13 ≤ n2 := Nat.le_trans h13 gr2.1
  obtain ⟨G3, n3, gr3, h7⟩ := lE7 (P := P) (sa := sa) (is := is) (s := s1) (k := k) (due := due) (mv := mv) (m := m) (r := r) (uri := uri) (t := tagOf uri) (ne := near p.fs) (sc := sc) hn2 ha2
  have h8 := lE8 (P := P) (sa := sa) (is := is) (s := s1) (G := G3) (n := n3) (k := k) (mv := mv) (m := m) (r := r) (t := tagOf uri) (sc := sc) (a := a) (us := usedOf uri b) (fs := p.fs) hu (show due.length ≤ 100000 by lia)
  have z1 := d1_len (uri := uri)
  have z2 := d2_len (r := p.fs) hu
  have ha3 : okId a ∧ a < n3 ∧ G3 a = .dict (akv b) := ⟨ha.1, Nat.lt_of_lt_of_le ha2.2.1 gr3.1, (gr3.2 a ha2.2.1).trans ha2.2.2⟩
  obtain ⟨G4, n4, gr4, h10⟩ := lE10 (P := P) (sa := sa) (is := is) (s := s1) (k := k) (mv := mv) (m := m) (r := r) (uri := uri) (t := tagOf uri) (due := due ++ d1 uri ++ d2 uri p.fs) (ne := near p.fs) (sc := sc) (us := usedOf uri b) (fs := p.fs) (Nat.le_trans hn2 gr3.1) (by rw [strLen_append, strLen_append]; lia) (c11.trans hpath) hfl ha3
  have htx : due ++ d1 uri ++ d2 uri p.fs ++ d3 (usedOf uri b) p.fs ++ d4 b = p1.txt := by
    rw [c9, hdue]; simp only [Str.append_assoc]
  rw [htx] at h10
  have R4 := (c4.grow (gr3.trans gr4).1 (gr3.trans gr4).2).path (xs := s1.path ++ [.tup [.str uri, .bool (usedOf uri b), .str sc]])
  have hpe : s1.path ++ [.tup [.str uri, .bool (usedOf uri b), .str sc]] = pathV p1.fs := by
    rw [c5, pathV_cons, c11, hpath]
    show _ = pathV p.fs ++ [V.tup [.str f.uri, .bool f.used, .str f.scope]]
    rw [c6, c7, c8]
  have hpl : s1.path.length < lim := by
    rw [c11, hpath]; unfold pathV; rw [List.length_reverse, List.length_map]; exact Nat.lt_of_le_of_lt hfl (by decide)
  refine ⟨p1, _, G4, n4, f, usedOf uri b, R4, (gr2.trans (gr3.trans gr4)).1, (gr2.trans (gr3.trans gr4)).2, c5, hpe, c10, by lia, ?_⟩
  have hfin : Ev (pe6 P sa is) (k + 70) (.xs sc_law ((bS P).drop 7) (L5 sa due mv m r uri a (tagOf uri) (near p.fs) sc) (mk6 s1 G2 n2)) (.f .next (LF sa p1.txt mv m r uri a (tagOf uri) (near p.fs) sc (usedOf uri b)) (mk6 { s1 with path := s1.path ++ [.tup [.str uri, .bool (usedOf uri b), .str sc]] } G4 n4)) :=
    h7 _ _ _ (h8 _ _ _ (h10 _ _ _ (xs_cons (xv_Expr rfl (ev_CallA rfl rfl (by decide) (ev_Name rfl) rfl rfl (evL_cons rfl (ev_Tuple (evL_cons rfl (ev_Name rfl) (evL_cons rfl (ev_Name rfl) (evL_cons rfl (ev_Name rfl) evL_nil))) (leR rfl)) evL_nil) evKw_nil (c_bm (pv_append rfl hpl put2)))) xs_nil)))
  exact xs_cons (xv_Expr rfl (ev_CallA rfl rfl (by decide) (ev_Name rfl) at_startM (ca_mt (fn_start P sa is)) (evL_cons rfl (ev_Name rfl) (evL_cons rfl (ev_CallN (lk_glob rfl rfl glob_dict) rfl (evL_cons rfl (ev_Name rfl) evL_nil) evKw_nil (c_bf (fv_dict hae (by cases b <;> exact leR rfl) al1))) evL_nil)) evKw_nil c1)) hfin
end Mine
end
section
open PySem PySem.W PyProof.Rows PySem.SeqAt Mine.Ev Mine.Prm Mine.PrF
set_option maxRecDepth 100000
set_option maxHeartbeats 400000
namespace Mine
variable {s : S6} {G G' : Nat → AObj} {n n' : Nat} {P : Params} {sa : Addr} {is : List Int} {p : PS} {c : Nat}
noncomputable abbrev TurnL (P : Params) (sa : Addr) (is : List Int) (k : Nat) (x : V) (loc : Loc) (H : Hp) (loc' : Loc) (H' : Hp) : Prop := Turn (pe6 P sa is) k sc_law (forT (bodyAt (hd.heap_39 P) 178)[5]?) (forB (bodyAt (hd.heap_39 P) 178)[5]?) x loc H .next loc' H'
noncomputable def mvV (m r : Int) : V := .tup [.int m, .int r]
/-- what stands between two turns -/
structure Jn (p : PS) (c : Nat) (s : S6) (G : Nat → AObj) (n mv : Nat) (ms : List V) : Prop where
  R : Rel p c s G n
  path : s.path = pathV p.fs
  mok : 13 ≤ mv
  mlt : mv < n
  mG : G mv = .list ms
  mfr : ∀ f ∈ p.fs, mv < f.m
variable {mv : Nat} {ms : List V}
theorem mfr_of {fs fs' : List Fr} (h : fs'.map Fr.m = fs.map Fr.m) (hm : ∀ f ∈ fs, mv < f.m) : ∀ f ∈ fs', mv < f.m := fun f hf => by
  have : f.m ∈ fs.map Fr.m := h ▸ List.mem_map_of_mem hf
  obtain ⟨g, hg, e⟩ := List.mem_map.mp this
  rw [← e]; exact hm g hg
theorem uri_of (r : Int) : ∃ uri, Uall uri ∧ atIdx [.str "", .str "d", .str "e", .str "p"] (r % 4) = some (.str uri) := by
  have : r % 4 = 0 ∨ r % 4 = 1 ∨ r % 4 = 2 ∨ r % 4 = 3 := by lia
  rcases this with h | h | h | h <;> rw [h]
  · exact ⟨"", .inl (.inl rfl), rfl⟩
  · exact ⟨"d", .inl (.inr (.inl rfl)), rfl⟩
  · exact ⟨"e", .inl (.inr (.inr rfl)), rfl⟩
  · exact ⟨"p", .inr rfl, rfl⟩
theorem turnA {k : Nat} {m r : Int} (J : Jn p c s G n mv ms) (hc : c ≤ 399) (hm : m < 2) :
    ∃ p' s' G' n' l, TurnL P sa is (k + 71) (mvV m r) (Lb sa p.txt mv) (mk6 s G n) (Lb sa p'.txt mv ++ l) (mk6 s' G' n') ∧ Jn p' (c + 2) s' G' n' mv ms ∧ p'.fs ≠ [] ∧ s'.seen = true := by
  obtain ⟨uri, hu, hix⟩ := uri_of r
  have h13 := J.R.n13
  obtain ⟨G1, n1, a, gr1, ha1, ha2, ha3, x1⟩ := lA (P := P) (sa := sa) (is := is) (s := s) (G := G) (k := k) (mv := mv) (m := m) (due := p.txt) h13 hu hix
  have R1 := J.R.grow gr1.1 gr1.2
  have hfl : p.fs.length ≤ 1000 := by have := J.R.z2; lia
  obtain ⟨G2, n2, gr2, x2⟩ := lBC (P := P) (sa := sa) (is := is) (s := s) (G := G1) (k := k) (mv := mv) (m := m) (r := r) (due := p.txt) (uri := uri) (t := tagOf uri) (a := a) R1.n13 J.path hfl
  have R2 := R1.grow gr2.1 gr2.2
  have gr := gr1.trans gr2
  obtain ⟨p3, s3, G3, n3, sc3, R3, hn3, ha4, D, hse, hpa, hkeep, hms, x3⟩ := lD (P := P) (sa := sa) (is := is) (k := k) (b := bOf r) (mv := mv) (m := m) (r := r) (due := p.txt) (t := tagOf uri) R2 (by lia) hu ⟨ha1, Nat.lt_of_lt_of_le ha2 gr2.1, (gr2.2 a ha2).trans ha3⟩
  have ha5 : okId a ∧ a < n3 ∧ G3 a = .dict (akv (bOf r)) := ⟨ha1, Nat.lt_of_lt_of_le (Nat.lt_of_lt_of_le ha2 gr2.1) hn3, ha4⟩
  obtain ⟨p4, s4, G4, n4, f, us, R4, hn4, hG4, hf, hp4, hs4, hfm, x4⟩ := lE (P := P) (sa := sa) (is := is) (k := k) (mv := mv) (m := m) (r := r) R3 (by lia) hu D.ok D.eq D.told D.nr ha5 D.txt.symm (by rw [hpa, J.path, D.path])
  rw [D.near] at x4
  have hmlt := J.mlt
  have hg1 := gr.1
  have hlt : Cmp (mk6 s G n) .Lt (.int m) (.int 2) true := decide_eq_true hm ▸ .lt
  refine ⟨p4, s4, G4, n4, [("move", .int m), ("rest", .int r), ("uri", .str uri), ("attrs", .ref a), ("tag", .str (tagOf uri)), ("near", .str (near p.fs)), ("scope", .str sc3), ("used", .bool us)], fb rfl (xs_cons (xv_If (t := true) (tv_Cmp rfl (ev_Name rfl) (ev_Const rfl) hlt) (x1 _ _ _ (x2 _ _ _ (x3 _ _ _ x4)))) xs_nil), ⟨R4, hp4, J.mok, by lia, ?_, ?_⟩, by rw [hf]; simp, hs4⟩
  · rw [hG4 mv (by lia), hkeep mv (by lia) (by have := J.mok; lia) (fun f hf' => by have := J.mfr f hf'; lia), gr.2 mv hmlt, J.mG]
  · rw [hf]
    intro g hg
    rcases List.mem_cons.mp hg with rfl | hg
    · lia
    · exact mfr_of hms J.mfr g hg
/-- an element is left -/
theorem turnB {k : Nat} {m r : Int} (J : Jn p c s G n mv ms) (hc : c ≤ 399) (hm : m = 4 ∨ (m = 2 ∧ 1 < p.fs.length)) (hne : p.fs ≠ []) :
    ∃ p' s' G' n' l, TurnL P sa is (k + 71) (mvV m r) (Lb sa p.txt mv) (mk6 s G n) (Lb sa p'.txt mv ++ l) (mk6 s' G' n') ∧ Jn p' (c + 2) s' G' n' mv ms ∧ p'.fs.length + 1 = p.fs.length ∧ p'.dat = [] ∧ s'.seen = s.seen := by
  obtain ⟨f, fr, hfs⟩ : ∃ f fr, p.fs = f :: fr := by
    cases h : p.fs with
    | nil => exact absurd h hne
    | cons f r => exact ⟨f, r, rfl⟩
  have hlim : ∀ {x : Nat}, x ≤ 200000 → x ≤ lim := fun h => Nat.le_trans h (by decide)
  have hpv : s.path = pathV fr ++ [frV f] := by rw [J.path, hfs, pathV_cons]
  have hfl : p.fs.length ≤ 1000 := by have := J.R.z2; lia
  have hlen : s.path.length = p.fs.length := by rw [J.path]; unfold pathV; rw [List.length_reverse, List.length_map]
  have hU : Uall f.uri := by have := J.R.good; rw [hfs] at this; exact this.2.1
  have hul : f.uri.length ≤ 1 := by rcases hU with h | h; exact h.len; rw [h]; decide
  let s1 : S6 := { s with path := pathV fr }
  have hpop : Prm (mk6 s G n) .lPop (.ref 2) [] (frV f) (mk6 s1 G n) :=
    pv_pop (xs := s.path) rfl (by rw [hpv]; exact List.getLast?_concat) (hlim (by lia)) (by rw [hpv, List.dropLast_concat]; exact put2)
  have R1 : Rel p c s1 G n := J.R.path
  obtain ⟨p2, s2, G2, n2, c1, c2, c3, c4, c5, c6, c7, c8, c9⟩ := op_end (P := P) (sa := sa) (is := is) (k := k + 7) R1 (by lia) hfs
  have hmlt := J.mlt
  have hdl : p.txt.length ≤ 50000 := by have := J.R.z4; lia
  have hl2 : (("{" : Str) ++ f.uri).length = 1 + f.uri.length := by rw [strLen_append]; rfl
  have hxl : (endX f.uri).length ≤ 20 := by unfold endX; split <;> decide
  have hlt : Cmp (mk6 s G n) .Lt (.int m) (.int 2) false := by
    exact decide_eq_false (show ¬ m < 2 by lia) ▸ .lt
  refine ⟨p2, s2, G2, n2, [("move", .int m), ("rest", .int r), ("uri", .str f.uri)], fb rfl (xs_cons (xv_If (t := false) (tv_Cmp rfl (ev_Name rfl) (ev_Const rfl) hlt) (xs_cons (xv_If (t := true) (H1 := mk6 s G n) (tv_Bool ?_) ?_) xs_nil)) xs_nil), ⟨c4.more (Nat.le_succ _), by rw [c9, c5], J.mok, by lia, (c3 mv hmlt).trans J.mG, by rw [c5]; exact fun g hg => J.mfr g (by rw [hfs]; exact List.mem_cons_of_mem _ hg)⟩, by rw [c5, hfs]; rfl, c6, c8⟩
  · rcases hm with rfl | ⟨rfl, hl1⟩
    · exact test_stop (tv_Cmp rfl (ev_Name rfl) (ev_Const rfl) (cmpR rfl)) rfl
    · have hgt : Cmp (mk6 s G n) .Gt (.int s.path.length) (.int 1) true := by
        exact decide_eq_true (show (s.path.length : Int) > 1 by rw [hlen]; lia) ▸ .gt
      exact test_go (tv_Cmp rfl (ev_Name rfl) (ev_Const rfl) (cmpR rfl)) rfl (test_stop (tv_Bool (test_go (tv_Cmp rfl (ev_Name rfl) (ev_Const rfl) (cmpR rfl)) rfl (test_go (tv_Cmp rfl (ev_CallN (lk_glob rfl rfl glob_len) rfl (evL_cons rfl (ev_Name rfl) evL_nil) evKw_nil (c_bf (fv_len rfl (hlim (by lia))))) (ev_Const rfl) hgt) rfl test_nil))) rfl)
  · exact xs_cons (xv_Asg rfl (fun _ => rfl) (ev_Idx rfl (ev_CallA rfl rfl (by decide) (ev_Name rfl) rfl rfl evL_nil evKw_nil (c_bm hpop)) (ev_Const rfl) rfl) (asgs_one rfl (asg_Name rfl))) (xs_cons (xv_Expr rfl (ev_CallA rfl rfl (by decide) (ev_Name rfl) at_end (ca_mt (fn_end P sa is)) (evL_cons rfl (ev_If (t := decide (f.uri ≠ sE)) (v := .str (tagOf f.uri)) (H2 := mk6 s1 G n) (tv_Cmp rfl (ev_Name rfl) (ev_Const rfl) (by
        by_cases h : f.uri = sE
        · rw [decide_eq_false (fun q => q h)]; exact cmp_neF h
        · rw [decide_eq_true h]; exact cmp_neT h)) (by
        by_cases h : f.uri = sE
        · rw [decide_eq_false (fun q => q h), show tagOf f.uri = "a" from if_pos h]; exact ev_Const rfl
        · rw [decide_eq_true h, show tagOf f.uri = "{" ++ f.uri ++ "}a" from if_neg h]
          exact ev_Bin (ev_Bin (ev_Const rfl) (ev_Name rfl) (.addS (hlim (by show 1 + f.uri.length ≤ _; lia)))) (ev_Const rfl) (.addS (hlim (by rw [hl2]; show 1 + f.uri.length + 2 ≤ _; lia))))) evL_nil) evKw_nil c1)) (xs_cons (xv_Aug (v := .str p2.txt) rfl rfl rfl (ev_If (t := decide (f.uri = sP)) (v := .str (endX f.uri)) (H2 := mk6 s2 G2 n2) (tv_Cmp rfl (ev_Name rfl) (ev_Const rfl) (by
        by_cases h : f.uri = sP
        · rw [decide_eq_true h]; exact cmp_eqT h
        · rw [decide_eq_false h]; exact cmp_eqF h)) (by
        by_cases h : f.uri = sP
        · rw [decide_eq_true h, show endX f.uri = "</p:a>" from if_pos h]; exact ev_Const rfl
        · rw [decide_eq_false h, show endX f.uri = "</a>" from if_neg h]; exact ev_Const rfl)) (by rw [c7]; exact add_str (hlim (by lia)))) xs_nil))

/-- a text -/
theorem turnC {k : Nat} {m r : Int} (J : Jn p c s G n mv ms) (hc : c ≤ 399) (hm : ¬ m < 2 ∧ m ≠ 4 ∧ ¬ (m = 2 ∧ 1 < p.fs.length)) (hs : s.seen = true) :
    ∃ p' s' G' n' l, TurnL P sa is (k + 71) (mvV m r) (Lb sa p.txt mv) (mk6 s G n) (Lb sa p'.txt mv ++ l) (mk6 s' G' n') ∧ Jn p' (c + 2) s' G' n' mv ms ∧ p'.fs = p.fs ∧ s'.seen = true := by
  have hlim : ∀ {x : Nat}, x ≤ 200000 → x ≤ lim := fun h => Nat.le_trans h (by decide)
  have hfl : p.fs.length ≤ 1000 := by have := J.R.z2; lia
  have hlen : s.path.length = p.fs.length := by rw [J.path]; unfold pathV; rw [List.length_reverse, List.length_map]
  obtain ⟨p2, s2, c1, c4, c5, c7, c8, c9⟩ := op_data (P := P) (sa := sa) (is := is) (k := k + 55) J.R (by lia) hs
  have hdl : p.txt.length ≤ 50000 := by have := J.R.z4; lia
  have hlt : Cmp (mk6 s G n) .Lt (.int m) (.int 2) false := by
    exact decide_eq_false hm.1 ▸ .lt
  have h4 : Cmp (mk6 s G n) .Eq (.int m) (.int 4) false := by
    exact (show (m == 4) = false by simpa using hm.2.1) ▸ .eq .int
  refine ⟨p2, s2, G, n, [("move", .int m), ("rest", .int r)], fb rfl (xs_cons (xv_If (t := false) (tv_Cmp rfl (ev_Name rfl) (ev_Const rfl) hlt) (xs_cons (xv_If (t := false) (H1 := mk6 s G n) (tv_Bool ?_) ?_) xs_nil)) xs_nil), ⟨c4.more (Nat.le_succ _), by rw [c9, c5, J.path], J.mok, J.mlt, J.mG, by rw [c5]; exact J.mfr⟩, c5, c8⟩
  · by_cases h2 : m = 2
    · subst h2
      have hgt : Cmp (mk6 s G n) .Gt (.int s.path.length) (.int 1) false := by
        exact decide_eq_false (show ¬ (s.path.length : Int) > 1 by rw [hlen]; intro q; exact hm.2.2 ⟨rfl, by lia⟩) ▸ .gt
      exact test_go (tv_Cmp rfl (ev_Name rfl) (ev_Const rfl) h4) rfl (test_go (tv_Bool (test_go (tv_Cmp rfl (ev_Name rfl) (ev_Const rfl) (cmpR rfl)) rfl (test_stop (tv_Cmp rfl (ev_CallN (lk_glob rfl rfl glob_len) rfl (evL_cons rfl (ev_Name rfl) evL_nil) evKw_nil (c_bf (fv_len rfl (hlim (by lia))))) (ev_Const rfl) hgt) rfl))) rfl test_nil)
    · have h22 : Cmp (mk6 s G n) .Eq (.int m) (.int 2) false := by
        exact (show (m == 2) = false by simpa using h2) ▸ .eq .int
      exact test_go (tv_Cmp rfl (ev_Name rfl) (ev_Const rfl) h4) rfl (test_go (tv_Bool (test_stop (tv_Cmp rfl (ev_Name rfl) (ev_Const rfl) h22) rfl)) rfl test_nil)
  · exact xs_cons (xv_Expr rfl (ev_CallA rfl rfl (by decide) (ev_Name rfl) at_data (ca_mt (fn_data P sa is)) (evL_cons rfl (ev_Const rfl) evL_nil) evKw_nil c1)) (xs_cons (xv_Aug (v := .str p2.txt) rfl rfl rfl (ev_Const rfl) (by rw [c7]; exact add_str (hlim (by show p.txt.length + 1 ≤ _; lia)))) xs_nil)
end Mine
end
section
open PySem PySem.W PyProof.Rows PySem.SeqAt Mine.Ev Mine.Prm Mine.PrF
set_option maxRecDepth 100000
set_option maxHeartbeats 400000
namespace Mine
variable {s : S6} {G G' : Nat → AObj} {n n' : Nat} {P : Params} {sa : Addr} {is : List Int} {p : PS} {c : Nat} {mv : Nat} {ms : List V}

noncomputable abbrev ForL (P : Params) (sa : Addr) (is : List Int) (k mv : Nat) (Hs : Hp) (xs : List V) (loc : Loc) (H : Hp) (fl : Fl) (loc' : Loc) (H' : Hp) : Prop := Ev (pe6 P sa is) k (.for sc_law (forT (bodyAt (hd.heap_39 P) 178)[5]?) (forB (bodyAt (hd.heap_39 P) 178)[5]?) (some mv) Hs xs loc H) (.f fl loc' H')
theorem loop_mid {k : Nat} {Hs : Hp} (hHs : Hs.f mv = .list ms) : ∀ (l : List (Int × Int)) {p : PS} {c : Nat} {s : S6} {G : Nat → AObj} {n : Nat} (_ : Jn p c s G n mv ms) (_ : c + 2 * l.length ≤ 399) (_ : ∀ x ∈ l, x.1 ≠ 4) (_ : p.fs ≠ []) (_ : s.seen = true) (rest : List V),
    ∃ p' s' G' n', Jn p' (c + 2 * l.length) s' G' n' mv ms ∧ p'.fs ≠ [] ∧ s'.seen = true ∧ ∀ fl lc h, ForL P sa is (k + 71) mv Hs rest (Lb sa p'.txt mv) (mk6 s' G' n') fl lc h → ForL P sa is (k + 71) mv Hs (l.map (fun x => mvV x.1 x.2) ++ rest) (Lb sa p.txt mv) (mk6 s G n) fl lc h
  | [], p, c, s, G, n, J, _, _, hne, hs, rest => ⟨p, s, G, n, J, hne, hs, fun _ _ _ h => h⟩
  | (m, r) :: l, p, c, s, G, n, J, hc, hx, hne, hs, rest => by
    have hc' : c + 2 + 2 * l.length ≤ 399 := by rw [List.length_cons] at hc; lia
    have one : ∃ p' s' G' n' l, TurnL P sa is (k + 71) (mvV m r) (Lb sa p.txt mv) (mk6 s G n) (Lb sa p'.txt mv ++ l) (mk6 s' G' n') ∧ Jn p' (c + 2) s' G' n' mv ms ∧ p'.fs ≠ [] ∧ s'.seen = true := by
      have h4 : m ≠ 4 := hx (m, r) List.mem_cons_self
      by_cases h2 : m < 2
      · exact turnA J (by lia) h2
      by_cases h3 : m = 2 ∧ 1 < p.fs.length
      · obtain ⟨p', s', G', n', l', a, b, d, e, f⟩ := turnB (P := P) (sa := sa) (is := is) (k := k) (r := r) J (by lia) (.inr h3) hne
        exact ⟨p', s', G', n', l', a, b, fun q => by rw [q] at d; simp at d; lia, f.trans hs⟩
      · obtain ⟨p', s', G', n', l', a, b, d, e⟩ := turnC (P := P) (sa := sa) (is := is) (k := k) (r := r) J (by lia) ⟨h2, h4, h3⟩ hs
        exact ⟨p', s', G', n', l', a, b, by rw [d]; exact hne, e⟩
    obtain ⟨p1, s1, G1, n1, l1, a1, a2, a4, a5⟩ := one
    obtain ⟨p2, s2, G2, n2, b1, b2, b3, b5⟩ := loop_mid hHs l a2 hc' (fun x h => hx x (List.mem_cons_of_mem _ h)) a4 a5 rest
    refine ⟨p2, s2, G2, n2, ?_, b2, b3, fun fl lc h hz => ?_⟩
    · rw [show c + 2 * ((m, r) :: l).length = c + 2 + 2 * l.length by rw [List.length_cons]; lia]; exact b1
    · exact for_go a1 rfl (for_forget lk_app (b5 _ _ _ hz)) (by
        show (mk6 s1 G1 n1).f mv = Hs.f mv
        rw [mk6_at (.inr (.inr (.inr a2.mok))), a2.mG, hHs])

theorem cut_ints (is : List Int) (lo hi st : Option Int) : ∃ l : List Int, cutV (is.map .int) lo hi st = l.map .int ∧ l.length ≤ (sliceRange (sliceBounds lo hi st is.length).1 (sliceBounds lo hi st is.length).2.1 (sliceBounds lo hi st is.length).2.2).length := by
  unfold cutV
  rw [List.length_map]
  generalize sliceRange (sliceBounds lo hi st is.length).1 (sliceBounds lo hi st is.length).2.1 (sliceBounds lo hi st is.length).2.2 = js
  refine ⟨js.filterMap (is[·]?), ?_, List.length_filterMap_le _ _⟩
  rw [List.map_filterMap]
  congr 1
  funext j
  rw [List.getElem?_map]
theorem cut_len (n : Nat) : (sliceRange (sliceBounds (some 1) none none n).1 (sliceBounds (some 1) none none n).2.1 (sliceBounds (some 1) none none n).2.2).length ≤ n := by
  unfold sliceRange sliceBounds
  simp only [Option.getD_none, List.length_map, List.length_range]
  simp only [show ((1 : Int) > 0) = True from by simp, if_true]
  simp only [Int.ediv_one]
  repeat' split
  all_goals lia
theorem ints_map : ∀ (l : List Int), intsOf (l.map .int) = some l
  | [] => rfl
  | a :: l => congrArg (Option.map (a :: ·)) (ints_map l)
theorem lst_eq : (pe6 P sa is).lst sa = some is := if_pos rfl

theorem mid_of (l : List Int) (k : Nat) : ∃ q : List (Int × Int), (l.map fun x => mvV (x % 4) (x / 4)) ++ (List.replicate k [mvV 2 0]).flatten = q.map (fun x => mvV x.1 x.2) ∧ q.length = l.length + k ∧ ∀ x ∈ q, x.1 ≠ 4 := by
  refine ⟨(l.map fun x => (x % 4, x / 4)) ++ List.replicate k (2, 0), ?_, by simp, ?_⟩
  · rw [List.map_append, List.map_map, List.map_replicate]
    congr 1
    induction k with
    | zero => rfl
    | succ k ih => rw [List.replicate_succ, List.flatten_cons, ih, List.replicate_succ]; rfl
  · intro x hx
    rcases List.mem_append.mp hx with h | h
    · obtain ⟨y, _, rfl⟩ := List.mem_map.mp h
      show y % 4 ≠ 4
      lia
    · rw [(List.mem_replicate.mp h).2]; decide
end Mine
end
section
open PySem PySem.W PyProof.Rows PySem.SeqAt Mine.Ev Mine.Prm Mine.PrF
set_option maxRecDepth 100000
set_option maxHeartbeats 400000
namespace Mine
variable {s : S6} {G G' : Nat → AObj} {n n' : Nat} {P : Params} {sa : Addr} {is : List Int} {p : PS} {c : Nat} {mv : Nat} {ms : List V}
theorem add_at {i j : Nat} {xs ys : List V} (hn : 13 ≤ n) (hi : okId i) (hj : okId j) (h1 : G i = .list xs) (h2 : G j = .list ys) (hl : xs.length + ys.length ≤ 100000) : Bin (mk6 s G n) .Add (.ref i) (.ref j) (.ref n) (mk6 s (upd G n (.list (xs ++ ys))) (n + 1)) := by
  have e1 : (mk6 s G n).f i = .list xs := (mk6_at hi).trans h1
  have e2 : (mk6 s G n).f j = .list ys := (mk6_at hj).trans h2
  exact .addL e1 e2 (Nat.le_trans hl (by decide)) (mk6_alloc hn)
theorem mul_at {i : Nat} {xs : List V} {k : Nat} (hn : 13 ≤ n) (hi : okId i) (h1 : G i = .list xs) (hx : xs.length = 1) (hk : k ≤ 1000) : Bin (mk6 s G n) .Mult (.ref i) (.int k) (.ref n) (mk6 s (upd G n (.list (List.replicate k xs).flatten)) (n + 1)) := by
  have e1 : (mk6 s G n).f i = .list xs := (mk6_at hi).trans h1
  exact .mulL e1 ⟨by lia, by rw [hx, Int.toNat_natCast, Nat.one_mul]; exact Nat.le_trans hk (by decide), by lia⟩ (mk6_alloc hn)
theorem slice_at {lo hi : Option Int} {l : List Int} (hn : 13 ≤ n) (h : cutV (is.map .int) lo hi none = l.map .int) : Slc (pe6 P sa is) (mk6 s G n) (.fn sa) lo hi none (.ref n) (mk6 s (upd G n (.list (l.map .int))) (n + 1)) := by
  exact .lst lst_eq (by simp) (by rw [h]; exact mk6_alloc hn)
noncomputable def g1 : Nat → AObj := upd g0 10 (.list [pv ppP])
noncomputable def p0 : PS := ⟨[], [ppP], [], []⟩
theorem rel0 : Rel p0 1 s0 g1 13 where
  out := rfl
  dat := rfl
  decl := rfl
  ns := rfl
  pres := rfl
  n13 := by decide
  g6 := rfl
  g9 := rfl
  g10 := rfl
  fr := trivial
  good := ⟨List.mem_singleton.mpr rfl, fun x hx => .inr (List.mem_singleton.mp hx)⟩
  dt := ⟨0, rfl⟩
  seen := fun h => absurd rfl h
  z0 := by decide
  z1 := by decide
  z2 := by decide
  z3 := by decide
  z4 := by decide
theorem dat0 : DatOk s0 [] := ⟨rfl, by decide, by decide, fun h => absurd rfl h⟩
theorem ca_cls : callable (pe6 P sa is) (.fn 150) = true := by
  show (((pe6 P sa is).fn 150).isSome || ((pe6 P sa is).init 150).isSome) = true
  rw [init_some]; simp

theorem run_law (hl : is.length ≤ 63) : ∃ H', Ev (pe6 P sa is) 150 (.c (.fn 178) [.fn sa] [] H0) (.v (.bool true) H') ∧ H'.f 0 = .tab 123 lamName := by
  obtain ⟨Hi, i1, i2, i3⟩ := t_init (P := P) (sa := sa) (is := is) (k := 117)
  have hns : Ev (pe6 P sa is) 147 (.c (.mt 113 (.ref 4)) [.str "p", .str "p"] [] (mk6 s0 g0 13)) (.v .none (mk6 s0 g1 13)) :=
    t_startns (P := P) (sa := sa) (is := is) (k := 97) (n := 13) (s := s0) (G := g0) (prefix_ := "p") (uri := "p") (l := []) (e := 10) (xs := []) dat0 (.inr (.inr (.inl rfl))) rfl rfl (by decide)
  obtain ⟨l1, e1, _⟩ := cut_ints is none (some 1) none
  obtain ⟨l2, e2, e2'⟩ := cut_ints is (some 1) none none
  have hl2 : l2.length ≤ 63 := Nat.le_trans (Nat.le_trans e2' (cut_len _)) hl
  let c1 : List V := l2.map fun x => mvV (x % 4) (x / 4)
  let c2 : List V := (List.replicate is.length [mvV 2 0]).flatten
  obtain ⟨q, q1, q2, q3⟩ := mid_of l2 is.length
  have hc2 : c1.length + c2.length = l2.length + is.length := by
    have := congrArg List.length q1
    rw [List.length_append, List.length_map (f := fun x : Int × Int => mvV x.1 x.2), q2] at this; exact this
  have hc1 : c1.length = l2.length := List.length_map _
  let G13 := upd g1 13 (.list (l1.map .int))
  let G14 := upd G13 14 (.list [mvV 0 l1.sum])
  let G15 := upd G14 15 (.list (l2.map .int))
  let G16 := upd G15 16 (.list c1)
  let G17 := upd G16 17 (.list ([mvV 0 l1.sum] ++ c1))
  let G18 := upd G17 18 (.list [mvV 2 0])
  let G19 := upd G18 19 (.list c2)
  let G20 := upd G19 20 (.list ([mvV 0 l1.sum] ++ c1 ++ c2))
  let G21 := upd G20 21 (.list [mvV 4 0])
  let ms : List V := [mvV 0 l1.sum] ++ c1 ++ c2 ++ [mvV 4 0]
  let G22 := upd G21 22 (.list ms)
  have big : ∀ {i : Nat}, 13 ≤ i → okId i := fun h => .inr (.inr (.inr h))
  have s1 : Slc (pe6 P sa is) (mk6 s0 g1 13) (.fn sa) none (some 1) none (.ref 13) (mk6 s0 G13 14) := slice_at (by decide) e1
  have f13 : (mk6 s0 G13 14).f 13 = .list (l1.map .int) := (mk6_at (big (by decide))).trans upd_at
  have a14 : (mk6 s0 G13 14).alloc (.list [mvV 0 l1.sum]) = mk6 s0 G14 15 := mk6_alloc (by decide)
  have s2 : Slc (pe6 P sa is) (mk6 s0 G14 15) (.fn sa) (some 1) none none (.ref 15) (mk6 s0 G15 16) := slice_at (by decide) e2
  have it15 : items (mk6 s0 G15 16) (.ref 15) = some (l2.map .int, some 15) := by
    have : (mk6 s0 G15 16).f 15 = .list (l2.map .int) := (mk6_at (big (by decide))).trans upd_at
    exact items_ref this
  have a16 : (mk6 s0 G15 16).alloc (.list c1) = mk6 s0 G16 17 := mk6_alloc (by decide)
  have b17 : Bin (mk6 s0 G16 17) .Add (.ref 14) (.ref 16) (.ref 17) (mk6 s0 G17 18) := add_at (by decide) (big (by decide)) (big (by decide)) rfl rfl (by show 1 + c1.length ≤ _; lia)
  have a18 : (mk6 s0 G17 18).alloc (.list [mvV 2 0]) = mk6 s0 G18 19 := mk6_alloc (by decide)
  have b19 : Bin (mk6 s0 G18 19) .Mult (.ref 18) (.int is.length) (.ref 19) (mk6 s0 G19 20) := mul_at (by decide) (big (by decide)) rfl rfl (by lia)
  have b20 : Bin (mk6 s0 G19 20) .Add (.ref 17) (.ref 19) (.ref 20) (mk6 s0 G20 21) := add_at (by decide) (big (by decide)) (big (by decide)) rfl rfl (by show ([mvV 0 l1.sum] ++ c1).length + c2.length ≤ _; rw [List.length_append, List.length_singleton]; lia)
  have a21 : (mk6 s0 G20 21).alloc (.list [mvV 4 0]) = mk6 s0 G21 22 := mk6_alloc (by decide)
  have b22 : Bin (mk6 s0 G21 22) .Add (.ref 20) (.ref 21) (.ref 22) (mk6 s0 G22 23) := add_at (by decide) (big (by decide)) (big (by decide)) rfl rfl (by show ([mvV 0 l1.sum] ++ c1 ++ c2).length + 1 ≤ _; rw [List.length_append, List.length_append, List.length_singleton]; lia)
  have it22 : items (mk6 s0 G22 23) (.ref 22) = some (ms, some 22) := by
    have : (mk6 s0 G22 23).f 22 = .list ms := (mk6_at (big (by decide))).trans upd_at
    exact items_ref this
  have R22 : Rel p0 1 s0 G22 23 := rel0.grow (by decide) fun i hi => by
    show upd (upd (upd (upd (upd (upd (upd (upd (upd (upd g1 13 _) 14 _) 15 _) 16 _) 17 _) 18 _) 19 _) 20 _) 21 _) 22 _ i = g1 i
    rw [upd_ne (by lia), upd_ne (by lia), upd_ne (by lia), upd_ne (by lia), upd_ne (by lia), upd_ne (by lia), upd_ne (by lia), upd_ne (by lia), upd_ne (by lia), upd_ne (by lia)]
  have J0 : Jn p0 1 s0 G22 23 22 ms := ⟨R22, rfl, by decide, by decide, rfl, fun f hf => by cases hf⟩
  have hHs : (mk6 s0 G22 23).f 22 = .list ms := (mk6_at (big (by decide))).trans upd_at
  -- the loop
  obtain ⟨p1, s1', G1, n1, l1', t1, J1, ne1, se1⟩ := turnA (P := P) (sa := sa) (is := is) (k := 77) (m := 0) (r := l1.sum) J0 (by decide) (by decide)
  obtain ⟨p2, s2', G2, n2, J2, ne2, se2, t2⟩ := loop_mid (P := P) (sa := sa) (is := is) (k := 77) hHs q J1 (by rw [q2]; lia) q3 ne1 se1 [mvV 4 0]
  obtain ⟨p3, s3, G3, n3, l3, t3, J3, ln3, dat3, se3⟩ := turnB (P := P) (sa := sa) (is := is) (k := 77) (m := 4) (r := 0) J2 (by rw [q2]; lia) (.inl rfl) ne2
  have stn : ∀ {p : PS} {c : Nat} {s : S6} {G : Nat → AObj} {n : Nat}, Jn p c s G n 22 ms → stands (mk6 s0 G22 23) (mk6 s G n) (some 22) := fun J => by
    show (mk6 _ _ _).f 22 = (mk6 s0 G22 23).f 22
    rw [mk6_at (big (by decide)), J.mG, hHs]
  have hms : ms = mvV 0 l1.sum :: (q.map (fun x => mvV x.1 x.2) ++ [mvV 4 0]) := by
    show [mvV 0 l1.sum] ++ c1 ++ c2 ++ [mvV 4 0] = _
    rw [← q1]; simp [c1, c2]
  have hfor : ForL P sa is 148 22 (mk6 s0 G22 23) ms (Lb sa p0.txt 22) (mk6 s0 G22 23) .next (Lb sa p3.txt 22) (mk6 s3 G3 n3) := by
    rw [hms]
    exact for_go t1 rfl (for_forget lk_app (t2 _ _ _ (for_go t3 rfl (for_forget lk_app for_nil) (stn J3)))) (stn J1)
  have htx : Txt.join Str.empty p3.outl = p3.txt := by
    rw [tjoin_cat]; unfold PS.txt; rw [dat3]; exact (Str.append_empty _).symm
  have hz : (cat p3.outl).length ≤ 100000 := by
    have h := J3.R.z4
    rw [← htx, tjoin_cat] at h
    rw [q2] at h; lia
  have hjn : Prm (mk6 s3 G3 n3) .tJoin (.str "") [.ref 1] (.str (Txt.join Str.empty p3.outl)) (mk6 s3 G3 n3) :=
    pv_join (xs := s3.out) rfl (by rw [J3.R.out]; exact strsOf_map _) (joinOk hz)
  have hmm : ∀ {sc : Sc} {em : Em} {gens : List Comprehension} {target : Expr} {ifs : List Expr} {loc : Loc} {src : Option Nat} {H : Hp} {k : Nat} (l : List Int), (∀ x : Int, ∃ loc', bindT sc H target (.int x) loc = some loc' ∧ Ev (pe6 P sa is) k (.ifs sc loc' ifs H) (.b true H) ∧ Ev (pe6 P sa is) k (.inn sc em gens loc' H) (.l [mvV (x % 4) (x / 4)] H)) → Ev (pe6 P sa is) k (.cl sc em gens target ifs loc src H (l.map .int) H) (.l (l.map fun x => mvV (x % 4) (x / 4)) H) := by
    intro sc em gens target ifs loc src H k l h
    induction l with
    | nil => exact cl_nil
    | cons x l ih => obtain ⟨_, a, b, c⟩ := h x; exact cl_cons a b c stands_refl ih
  refine ⟨mk6 s3 G3 n3, c_fn (init_none (by decide)) (run_fn (fn_law P sa is) .law body_law nm_law (xs_cons (xv_AsgT rfl (ev_Tuple (evL_cons rfl (ev_List evL_nil (leR rfl) rfl) (evL_cons rfl (ev_List evL_nil (leR rfl) rfl) (evL_cons rfl (ev_Const rfl) evL_nil))) (leR rfl)) rfl) (xs_cons (xv_Asg rfl (fun _ => rfl) (ev_CallN (lk_glob rfl rfl glob_cls) ca_cls (evL_cons rfl (ev_AttrL rfl (ev_Name rfl) rfl) evL_nil) evKw_nil i1) (asgs_one rfl (asg_Name rfl))) (xs_cons (xv_Asg rfl (fun _ => rfl) (ev_Name (lk_glob rfl rfl glob_walk)) (asgs_one rfl (asg_Attr (ev_Name rfl) i2 i3))) (xs_cons (xv_Expr rfl (ev_CallA rfl rfl (by decide) (ev_Name rfl) at_startns (ca_mt (fn_startns P sa is)) (evL_cons rfl (ev_Const rfl) (evL_cons rfl (ev_Const rfl) evL_nil)) evKw_nil hns)) (xs_cons (xv_Asg rfl (fun _ => rfl) (ev_Bin (ev_Bin (ev_Bin (ev_List (evL_cons rfl (ev_Tuple (evL_cons rfl (ev_Const rfl) (evL_cons rfl (ev_CallN (lk_glob rfl rfl glob_sum) rfl (evL_cons rfl (ev_Slice (ev_Name rfl) opt_none (opt_some (ev_Const rfl)) opt_none s1) evL_nil) evKw_nil (c_bf (fv_sum f13 (ints_map l1)))) evL_nil)) (leR rfl)) evL_nil) (leR rfl) a14)
        (ev_Comp (ev_LC rfl rfl (ev_Slice (ev_Name rfl) (opt_some (ev_Const rfl)) opt_none opt_none s2) it15 rfl (hmm l2 fun x => ⟨_, rfl, ifs_nil, in_el (ev_Tuple (evL_cons rfl (ev_Bin (ev_Name rfl) (ev_Const rfl) (binR rfl)) (evL_cons rfl (ev_Bin (ev_Name rfl) (ev_Const rfl) (binR rfl)) evL_nil)) (leR rfl))⟩) (by rw [hc1]; exact Nat.le_trans hl2 (by decide)) a16)) b17)
        (ev_Bin (ev_List (evL_cons rfl (ev_Tuple (evL_cons rfl (ev_Const rfl) (evL_cons rfl (ev_Const rfl) evL_nil)) (leR rfl)) evL_nil) (leR rfl) a18) (ev_CallN (lk_glob rfl rfl glob_len) rfl (evL_cons rfl (ev_Name rfl) evL_nil) evKw_nil (c_bf (fv_lenL lst_eq))) b19) b20)
        (ev_List (evL_cons rfl (ev_Tuple (evL_cons rfl (ev_Const rfl) (evL_cons rfl (ev_Const rfl) evL_nil)) (leR rfl)) evL_nil) (leR rfl) a21) b22) (asgs_one rfl (asg_Name rfl))) (xs_cons (xv_For rfl (ev_Name rfl) it22 hfor) (xs_stop (xv_Ret (ev_Cmp rfl (ev_CallA rfl rfl (by decide) (ev_Const rfl) rfl rfl (evL_cons rfl (ev_Name rfl) evL_nil) evKw_nil (c_bm hjn)) (ev_Name rfl) (cmp_eqT htx))) rfl))))))) rfl), rfl⟩
theorem rw_dr0138_06_holds : PySem.Challenge.rw_dr0138_06.Holds := glue06 fun _ _ _ h => run_law h
end Mine
end
open PySem PySem.W PyProof.Rows
theorem PySem.Challenge.cw_dr0138_06_holds : PySem.Challenge.rw_dr0138_06.Holds := by
  exact Mine.rw_dr0138_06_holds
