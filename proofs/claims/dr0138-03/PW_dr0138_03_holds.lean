import PyProof.Rows.All
import Wide.All
import OpenK.AllK
import Wide.FinOn
import KE.KRevIter
import KE.KNestM
import PySem.Challenge.RW_dr0138_03
set_option Elab.async false
set_option bootstrap.genMatcherCode false
set_option genSizeOf false
set_option genInjectivity false
set_option linter.all false
section
open PySem PySem.W PyProof.Rows
set_option maxRecDepth 100000
set_option maxHeartbeats 8000000
namespace Mine
noncomputable def twP:{ p:Program // PySem.Challenge.pw_dr0138_03=p } :=
 ⟨_,by
  conv=>lhs; reduce⟩
noncomputable def pre.tw3433018556866054772:Program:=twP.1
theorem pre.te3433018556866054772:PySem.Challenge.pw_dr0138_03=pre.tw3433018556866054772:=twP.2
set_option Elab.async true in
theorem pre:decide (PySem.Challenge.pw_dr0138_03.main.body.length=17)=true:=by
 k_qdec
theorem pre2:True:=by decide+kernel
end Mine
open_top hd for PySem.Challenge.rw_dr0138_03
end
section
open PySem PySem.W PyProof.Rows PySem.SeqAt
set_option maxRecDepth 100000
set_option maxHeartbeats 8000000
set_option tactic.hygienic false
namespace Mine
local macro_rules
 | `(tactic| trivial) => `(tactic| first
  | with_reducible assumption
  | with_reducible exact Nat.le_refl _
  | with_reducible exact Nat.lt_succ_self _
  | with_reducible exact Nat.le_succ _
  | with_reducible exact Nat.le_add_right _ _
  | with_reducible exact Nat.succ_pos _
  | with_reducible decide
  | (apply Nat.le_trans; with_reducible assumption; with_reducible exact Nat.le_of_ble_eq_true rfl)
  | (apply Nat.lt_of_le_of_lt; with_reducible assumption; with_reducible decide)
  | (apply Nat.lt_of_lt_of_le; with_reducible assumption; with_reducible assumption)
  | (apply Nat.lt_of_le_of_lt; with_reducible assumption; with_reducible assumption)
  | (apply Nat.le_trans; with_reducible assumption; with_reducible assumption)
  | (apply Nat.lt_of_lt_of_le; with_reducible assumption; with_reducible exact Nat.le_add_right _ _)
  | (apply Nat.le_trans; with_reducible assumption; with_reducible exact Nat.le_add_right _ _)
  | (apply Nat.lt_of_le_of_lt; with_reducible exact Nat.zero_le _; with_reducible assumption)
  | (apply Nat.le_of_lt; with_reducible assumption)
  | (apply Nat.lt_of_succ_lt; with_reducible assumption)
  | (apply Nat.lt_of_lt_of_le; rotate_left; with_reducible assumption; with_reducible exact Nat.add_lt_add_left (by decide) _)
  | (apply Nat.lt_succ_of_lt; first | with_reducible assumption | (apply Nat.lt_succ_of_lt; first | with_reducible assumption | (apply Nat.lt_succ_of_lt; with_reducible assumption)))
  | lia)
section
inductive Ex2 {α β:Type} (p:α→β→Prop):Prop | mk (a:α) (b:β) (h:p a b):Ex2 p
inductive Ex3 {α β γ:Type} (p:α→β→γ→Prop):Prop | mk (a:α) (b:β) (c:γ) (h:p a b c):Ex3 p
inductive Ex4 {α β γ δ:Type} (p:α→β→γ→δ→Prop):Prop | mk (a:α) (b:β) (c:γ) (d:δ) (h:p a b c d):Ex4 p
inductive Ex6 {α β γ δ ε ζ:Type} (p:α→β→γ→δ→ε→ζ→Prop):Prop | mk (a:α) (b:β) (c:γ) (d:δ) (e:ε) (f:ζ) (h:p a b c d e f):Ex6 p
inductive Ex7 {α β γ δ ε ζ η:Type} (p:α→β→γ→δ→ε→ζ→η→Prop):Prop | mk (a:α) (b:β) (c:γ) (d:δ) (e:ε) (f:ζ) (g:η) (h:p a b c d e f g):Ex7 p
inductive Ex9 {α β γ δ ε ζ η θ ι:Type} (p:α→β→γ→δ→ε→ζ→η→θ→ι→Prop):Prop | mk (a:α) (b:β) (c:γ) (d:δ) (e:ε) (f:ζ) (g:η) (h:θ) (i:ι) (h:p a b c d e f g h i):Ex9 p
inductive Ex10 {α β γ δ ε ζ η θ ι κ:Type} (p:α→β→γ→δ→ε→ζ→η→θ→ι→κ→Prop):Prop | mk (a:α) (b:β) (c:γ) (d:δ) (e:ε) (f:ζ) (g:η) (h:θ) (i:ι) (j:κ) (h:p a b c d e f g h i j):Ex10 p
inductive Ex2_2 {α β:Type} (p1 p2:α→β→Prop):Prop | mk (a:α) (b:β) (h1:p1 a b) (h2:p2 a b):Ex2_2 p1 p2
inductive Ex2_3 {α β:Type} (p1 p2 p3:α→β→Prop):Prop | mk (a:α) (b:β) (h1:p1 a b) (h2:p2 a b) (h3:p3 a b):Ex2_3 p1 p2 p3
inductive Ex2_4 {α β:Type} (p1 p2 p3 p4:α→β→Prop):Prop | mk (a:α) (b:β) (h1:p1 a b) (h2:p2 a b) (h3:p3 a b) (h4:p4 a b):Ex2_4 p1 p2 p3 p4
inductive Ex2_5 {α β:Type} (p1 p2 p3 p4 p5:α→β→Prop):Prop | mk (a:α) (b:β) (h1:p1 a b) (h2:p2 a b) (h3:p3 a b) (h4:p4 a b) (h5:p5 a b):Ex2_5 p1 p2 p3 p4 p5
inductive Ex3_3 {α β γ:Type} (p1 p2 p3:α→β→γ→Prop):Prop | mk (a:α) (b:β) (c:γ) (h1:p1 a b c) (h2:p2 a b c) (h3:p3 a b c):Ex3_3 p1 p2 p3
inductive Ex3_4 {α β γ:Type} (p1 p2 p3 p4:α→β→γ→Prop):Prop | mk (a:α) (b:β) (c:γ) (h1:p1 a b c) (h2:p2 a b c) (h3:p3 a b c) (h4:p4 a b c):Ex3_4 p1 p2 p3 p4
inductive Ex3_5 {α β γ:Type} (p1 p2 p3 p4 p5:α→β→γ→Prop):Prop | mk (a:α) (b:β) (c:γ) (h1:p1 a b c) (h2:p2 a b c) (h3:p3 a b c) (h4:p4 a b c) (h5:p5 a b c):Ex3_5 p1 p2 p3 p4 p5
inductive Ex3_6 {α β γ:Type} (p1 p2 p3 p4 p5 p6:α→β→γ→Prop):Prop | mk (a:α) (b:β) (c:γ) (h1:p1 a b c) (h2:p2 a b c) (h3:p3 a b c) (h4:p4 a b c) (h5:p5 a b c) (h6:p6 a b c):Ex3_6 p1 p2 p3 p4 p5 p6
inductive Ex3_8 {α β γ:Type} (p1 p2 p3 p4 p5 p6 p7 p8:α→β→γ→Prop):Prop | mk (a:α) (b:β) (c:γ) (h1:p1 a b c) (h2:p2 a b c) (h3:p3 a b c) (h4:p4 a b c) (h5:p5 a b c) (h6:p6 a b c) (h7:p7 a b c) (h8:p8 a b c):Ex3_8 p1 p2 p3 p4 p5 p6 p7 p8
inductive Ex5_3 {α β γ δ ε:Type} (p1 p2 p3:α→β→γ→δ→ε→Prop):Prop | mk (a:α) (b:β) (c:γ) (d:δ) (e:ε) (h1:p1 a b c d e) (h2:p2 a b c d e) (h3:p3 a b c d e):Ex5_3 p1 p2 p3
inductive Ex5_7 {α β γ δ ε:Type} (p1 p2 p3 p4 p5 p6 p7:α→β→γ→δ→ε→Prop):Prop | mk (a:α) (b:β) (c:γ) (d:δ) (e:ε) (h1:p1 a b c d e) (h2:p2 a b c d e) (h3:p3 a b c d e) (h4:p4 a b c d e) (h5:p5 a b c d e) (h6:p6 a b c d e) (h7:p7 a b c d e):Ex5_7 p1 p2 p3 p4 p5 p6 p7
inductive Ex6_3 {α β γ δ ε ζ:Type} (p1 p2 p3:α→β→γ→δ→ε→ζ→Prop):Prop | mk (a:α) (b:β) (c:γ) (d:δ) (e:ε) (f:ζ) (h1:p1 a b c d e f) (h2:p2 a b c d e f) (h3:p3 a b c d e f):Ex6_3 p1 p2 p3
theorem noS{α:Type}{v:α}{P:Prop}(h:none=some v):P:=nomatch h
theorem noB{P:Prop}(h:false=true):P:=nomatch h
section
variable {prog:Program} {w:World} {A:Around} {E:Value→Shared→Prop} {s:Shared}
theorem wiT{α:Type}{M:Model}{c:Prop}[Decidable c]{x y:Sem α}{Q:α→Shared→Prop}(hc:c)(h:wpAny M A x Q E s):wpAny M A (if c then x else y) Q E s:=by rw[if_pos hc]; exact h
theorem wiF{α:Type}{M:Model}{c:Prop}[Decidable c]{x y:Sem α}{Q:α→Shared→Prop}(hc:¬ c)(h:wpAny M A y Q E s):wpAny M A (if c then x else y) Q E s:=by rw[if_neg hc]; exact h
noncomputable abbrev byText(w:World):Prop:=w.params.followText "set-order"=true
structure SetX (prog:Program) (w:World) (h:Heap) (a:Addr) (S:Str→Bool) (n:Nat):Prop where
 set:h.SetOf (PySem.strKind prog w) a S n
 tab:Ex4 fun o es ep t=>h.get? a=some o∧o.data = .set es ep t∧(t.led=true∨byText w)∧(es.size=0∨t.plain=false)∧(es.size≤1→t.dummies.size=0∧7≤t.mask)
set_option tactic.hygienic true in
theorem relay_plain(t:SetTable)(es:Array (Int×Value))(n:Nat):(relayAll t es n).2.1.plain=true→t.plain=true:=by
 unfold relayAll
 split
 ·rename_i t' order e
  dsimp only
  split
  ·intro h
   unfold SetTable.relaid SetTable.laid at e
   simp only[Option.bind_eq_bind,Option.bind_eq_some_iff,Option.pure_def,Option.some.injEq,Prod.mk.injEq] at e
   obtain ⟨_,_,rfl,_⟩:=e
   exact h
  ·intro h; exact absurd h (by simp [SetTable.standIn])
 ·intro h; exact absurd h (by simp [SetTable.standIn])
set_option tactic.hygienic true in
theorem relay_led(t:SetTable)(es:Array (Int×Value))(n:Nat):(relayAll t es n).2.1.led=t.led:=by
 unfold relayAll
 split
 ·rename_i t' order e
  dsimp only
  split
  ·unfold SetTable.relaid SetTable.laid at e
   simp only[Option.bind_eq_bind,Option.bind_eq_some_iff,Option.pure_def,Option.some.injEq,Prod.mk.injEq] at e
   obtain ⟨_,_,rfl,_⟩:=e
   rfl
  ·rfl
 ·rfl
theorem layNew_led(t:SetTable)(es:Array (Int×Value))(h:Int)(x:Value):(layNew t es h x).2.1.led=t.led:=by
 unfold layNew
 split
 ·dsimp only[SetTable.orStandIn]
  split <;> rfl
 ·rfl
theorem layNew_small(t:SetTable)(h:Int)(x:Value)(hd:t.dummies.size=0)(hm:7≤t.mask):(layNew t #[] h x).2.1.dummies.size=0∧7≤(layNew t #[] h x).2.1.mask:=by
 obtain ⟨l,e⟩:∃ l,t.dummies=⟨l⟩:=⟨t.dummies.toList,by simp⟩
 have hl:l=[]:=by rw[e] at hd; simpa using hd
 subst hl
 unfold layNew
 split
 ·dsimp only[SetTable.orStandIn]
  split
  ·simp only[SetTable.put]
   split <;> simp_all [SetTable.eraseAt]
  ·simp [SetTable.standIn,SetTable.insertAt]
 ·simp [SetTable.standIn]
set_option tactic.hygienic true in
theorem addTailX{g:Bool→Sem Unit}(hg:∀ (b:Bool) (s₁:Shared) (Q':Unit→Shared→Prop),Q' () s₁→wpAny (model prog w) A (g b) Q' E s₁)
  {a:Addr} {o:Obj} {es:Array (Int×Value)} {ep:Nat} {t:SetTable} (ho:s.heap.get? a=some o) (hex:o.ExactSet) (hd:o.data = .set es ep t)
  {es1:Array (Int×Value)} {t2:SetTable} {S':Str→Bool} (hel1:ElemsOf (PySem.strKind prog w) es1.toList) (hmem1:∀ k',S' k'=true↔∃ e∈es1.toList,(PySem.strKind prog w).is k' e.2=true)
  (hb1:es1.size<scanBound) (hf2:t2.fits es1.size=true) (hp2:t2.plain=false) (hl2:t2.led=true∨byText w) (hs2:es1.size≤1→t2.dummies.size=0∧7≤t2.mask) {wasDummy:Bool} {R:Option Bool→Shared→Prop}
  (h:∀ h',Heap.SameBut a s.heap h'→SetX prog w h' a S' es1.size→R (some true) { s with heap:=h' }) :
  wpAny (model prog w) A (do
    storeSet a es1 t2
    if (!wasDummy&&t2.tooFull)=true then do
      g (relayAll t2 es1 (SetTable.grown es1.size)).2.2
      storeSet a (relayAll t2 es1 (SetTable.grown es1.size)).1 (relayAll t2 es1 (SetTable.grown es1.size)).2.1
      pure (some true)
     else pure (some true)) R E s:=by
 refine wpAny_bind (wpAny_storeSet_of ho hd ?_ (fits_of_scanBound hb1))
 obtain ⟨ho1,hS1⟩:=SetOf_store (knd:=PySem.strKind prog w) ho hex hd hel1 hmem1 hb1 hf2
 have hsb1:=Heap.SameBut.update s.heap a (Obj.putSet es1 t2)
 split
 ·rename_i hfull
  have h1:¬ es1.size≤1:=fun hle=>by
   obtain ⟨q1,q2⟩:=hs2 hle
   simp only[SetTable.fits,Bool.and_eq_true,beq_iff_eq] at hf2
   obtain ⟨_,hfull⟩:=Bool.and_eq_true_iff.mp hfull
   have hfull:t2.fill*5≥t2.mask*3:=by simpa [SetTable.tooFull] using hfull
   unfold SetTable.fill at hfull
   trivial
  have hp:=relayAll_perm t2 es1 (SetTable.grown es1.size)
  have hfr:=relayAll_fits t2 es1 (SetTable.grown es1.size)
  have hpl:=relay_plain t2 es1 (SetTable.grown es1.size)
  have hld:=relay_led t2 es1 (SetTable.grown es1.size)
  generalize hRl:relayAll t2 es1 (SetTable.grown es1.size)=Rl at hp hfr hpl hld ⊢
  obtain ⟨es2,t3,gave2⟩:=Rl
  dsimp only at hp hfr hpl hld ⊢
  have hel2:ElemsOf (PySem.strKind prog w) es2.toList:=hel1.perm hp
  have hmem2:∀ k',S' k'=true↔∃ e∈es2.toList,(PySem.strKind prog w).is k' e.2=true:=fun k'=>(hmem1 k').trans ⟨fun ⟨e,he,q⟩=>⟨e,hp.mem_iff.mpr he,q⟩,fun ⟨e,he,q⟩=>⟨e,hp.mem_iff.mp he,q⟩⟩
  have hsz:es2.size=es1.size:=by rw[← Array.length_toList,hp.length_eq,Array.length_toList]
  have hb2:es2.size<scanBound:=by rw[hsz]; exact hb1
  refine wpAny_bind (hg _ _ _ ?_)
  refine wpAny_bind (wpAny_storeSet_of ho1 rfl ?_ (fits_of_scanBound hb2))
  obtain ⟨ho2,hS2⟩:=SetOf_store (knd:=PySem.strKind prog w) ho1 hex rfl hel2 hmem2 hb2 hfr
  rw[hsz] at hS2
  refine wpAny_pure (h _ (hsb1.trans (Heap.SameBut.update _ a _)) ⟨hS2,_,_,_,_,ho2,rfl,by rw[hld]; exact hl2,.inr ?_,fun hle=>absurd (hsz▸hle) h1⟩)
  cases hq:t3.plain with
  | false=>rfl
  | true=>rw[hpl hq] at hp2; first | contradiction | cases hp2
 ·exact wpAny_pure (h _ hsb1 ⟨hS1,_,_,_,_,ho1,rfl,hl2,.inr hp2,hs2⟩)
set_option tactic.hygienic true in
theorem setAddX{a:Addr}{S:Str→Bool}{n:Nat}{k:Str}{u:Tok}{Q:Bool→Shared→Prop}(hX:SetX prog w s.heap a S n)(hroom:n+1<scanBound)
  (h:∀ h',Heap.SameBut a s.heap h'→SetX prog w h' a (fun k'=>S k'||decide (k'=k)) (if S k then n else n+1)→Q (!S k) { s with heap:=h' }) :
  wpAny (model prog w) A (setAddHashed a (.str k u) ((PySem.strKind prog w).hash k)) Q E s:=by
 have hkey:(PySem.strKind prog w).is k (.str k u)=true:=strKind_is _ _ _ _
 have hsc:(Value.str k u).scannable=true:=rfl
 obtain ⟨⟨o,es,ep,t,ho,hex,hd,hel,hmem,hb,hf,hn⟩,o',es',ep',t',ho',hd',hl,hp,hsm⟩:=hX
 rw[ho] at ho'; first | contradiction | cases ho'
 rw[hd] at hd'; first | contradiction | cases hd'
 have hb1:es.size+1<scanBound:=by rw[hn]; exact hroom
 unfold setAddHashed setAddHashedIn
 refine wpAny_holding (wpAny_bind (wpAny_setState_of ho hd hf ?_))
 dsimp only
 rw[byScan_of hsc hb hel]
 simp only[↓reduceIte]
 unfold setAddByScan
 refine wpAny_bind ?_
 refine wpAny_bind (wpAny_rule ?_)
 refine wpAny_bind (wpAny_setScan_of hkey ho hd hf hel ?_)
 cases hr:List.findIdx? (fun e=>(PySem.strKind prog w).is k e.2) es.toList with
 | some j =>
  dsimp only
  obtain ⟨hj,hpj,_⟩:=List.findIdx?_eq_some_iff_getElem.mp hr
  have hSk:S k=true:=(hmem k).mpr ⟨es.toList[j],List.getElem_mem hj,hpj⟩
  refine wpAny_pure (wpAny_pure ?_)
  have e:s={ s with heap:=s.heap }:=by cases s; rfl
  have:=h s.heap (Heap.SameBut.refl a s.heap) ⟨⟨o,es,ep,t,ho,hex,hd,hel,fun k'=>by
   rw[Bool.or_eq_true,decide_eq_true_eq,← hmem k']
   exact ⟨fun hk=>hk.elim id (fun e=>e▸hSk),.inl⟩,hb,hf,by rw[hSk]; exact hn⟩,o,es,ep,t,ho,hd,hl,hp,hsm⟩
  rw[hSk] at this; rw[e]; exact this
 | none =>
  dsimp only
  have hSk:S k=false:=by
   cases hk:S k with
   | false=>rfl
   | true=>obtain ⟨e,he,hp⟩:=(hmem k).mp hk; have:=List.findIdx?_eq_none_iff.mp hr e he; rw[hp] at this; exact Bool.noConfusion this
  have hgw:∀ (b:Bool) {s₁:Shared} {Q':Unit→Shared→Prop},Q' () s₁→wpAny (model prog w) A (match b with | true=>rule "set.scan.the-table-gave-way" | false=>pure ()) Q' E s₁ :=
   fun b s₁ Q' hq=>by cases b <;> first | exact wpAny_pure hq | exact wpAny_rule hq
  have hperm:=layNew_perm t es ((PySem.strKind prog w).hash k) (.str k u)
  have hfits:=layNew_fits t es ((PySem.strKind prog w).hash k) (.str k u)
  have hsmall:(layNew t es ((PySem.strKind prog w).hash k) (.str k u)).1.size≤1→(layNew t es ((PySem.strKind prog w).hash k) (.str k u)).2.1.dummies.size=0∧7≤(layNew t es ((PySem.strKind prog w).hash k) (.str k u)).2.1.mask:=fun hle=>by
   have hz:es.size=0:=by
    have:=hperm.length_eq
    simp only[Array.length_toList,Array.toList_push,List.length_append,List.length_singleton] at this
    trivial
   obtain ⟨l,e⟩:∃ l,es=⟨l⟩:=⟨es.toList,by simp⟩
   have hl:l=[]:=by rw[e] at hz; simpa using hz
   subst hl; subst e
   obtain ⟨q1,q2⟩:=hsm (by simp)
   exact layNew_small t _ _ q1 q2
  have hled:=layNew_led t es ((PySem.strKind prog w).hash k) (.str k u)
  generalize hL:layNew t es ((PySem.strKind prog w).hash k) (.str k u)=L at hperm hfits hled hsmall ⊢
  obtain ⟨es1,t1,wasDummy,gave⟩:=L
  dsimp only at hperm hfits hled hsmall ⊢
  rw[Array.toList_push] at hperm
  have hel1:ElemsOf (PySem.strKind prog w) es1.toList:=(hel.push hkey hsc).perm hperm
  have hmem1:∀ k',(S k'||decide (k'=k))=true↔∃ e∈es1.toList,(PySem.strKind prog w).is k' e.2=true:=mem_push_iff hkey hmem hperm
  have hb1':es1.size<scanBound:=by rw[← Array.length_toList,hperm.length_eq,List.length_append,Array.length_toList]; simpa using hb1
  refine wpAny_bind (hgw _ ?_)
  have hsz1:es1.size=n+1:=by rw[← Array.length_toList,hperm.length_eq,List.length_append,Array.length_toList,hn]; rfl
  have hend:∀ h',Heap.SameBut a s.heap h'→SetX prog w h' a (fun k'=>S k'||decide (k'=k)) es1.size→Q true { s with heap:=h' }:=by
   intro h' hsb hS'; have:=h h' hsb; rw[hSk] at this; rw[hsz1] at hS'; exact this hS'
  split
  ·refine wpAny_bind ?_
   rw[hashByValue_scannable 8 hsc]
   refine wpAny_pure ?_
   refine addTailX ?_ ho hex hd hel1 hmem1 hb1' ?_ ?_ ?_ ?_ ?_
   ·intro b s₁ Q' hq; cases b <;> first | exact wpAny_pure hq | exact wpAny_rule hq
   ·split
    ·exact hfits
    ·exact SetTable.fits_plain_off hfits
   ·rfl
   ·show t1.led=true∨_; rw[hled]; exact hl
   ·exact hsmall
   ·intro h' hsb hS'; dsimp only; exact wpAny_pure (hend h' hsb hS')
  ·rename_i hpl
   refine wpAny_bind (wpAny_pure ?_)
   simp only[↓reduceIte]
   refine addTailX ?_ ho hex hd hel1 hmem1 hb1' hfits (by simpa using hpl) (by rw[hled]; exact hl) hsmall ?_
   ·intro b s₁ Q' hq; cases b <;> first | exact wpAny_pure hq | exact wpAny_rule hq
   ·intro h' hsb hS'; dsimp only; exact wpAny_pure (hend h' hsb hS')
theorem newSetX{Q:Value→Shared→Prop}
  (h:∀ h':Heap,(∀ b o,s.heap.get? b=some o→h'.get? b=some o)→SetX prog w h' s.heap.objs.size (fun ι=>false) 0→h'.objs.size=s.heap.objs.size+1→Q (.ref s.heap.objs.size) { s with heap:=h' }) :
  wpAny (model prog w) A (newSet (.type "set")) Q E s:=by
 unfold newSet setsByText
 refine wpAny_bind (wpAny_bind (wpAny_askSetting (wpAny_pure ?_)))
 dsimp only
 simp only[newObj]
 refine wpAny_bind (wpAny_alloc (wpAny_pure (h _ (fun ι ι e=>Heap.get?_push_of_some _ e) ⟨⟨_,#[],0,_,Heap.get?_push_size _ rfl,⟨rfl,rfl,rfl⟩,rfl,fun e he=>by simp at he,fun k=>by simp,by decide,by rfl,rfl⟩,
  _,_,_,_,Heap.get?_push_size _ rfl,rfl,?_,.inl rfl,fun ι=>⟨rfl,Nat.le_refl 7⟩⟩ (by rw[Heap.size_push]))))
 cases hb:w.params.followText "set-order" with
 | true=>exact .inr hb
 | false=>left; show (!_)=true; simp [SetTable.fresh,model,hb]
end
end
section
theorem slot_setit_next:Slot "set_iterator" "__next__" "set_iterator.__next__" :=
 .of (owner:="set_iterator") (n:="__next__") (by rw[typeLookup_type,builtinLookup_eq_fast]; kernel_rfl) (by decide+kernel) (by decide+kernel) (by decide+kernel)
  (by first | exact .inl (by decide+kernel) | exact .inr (by decide+kernel)) (by rw[isSubtype_type]; kernel_rfl)
theorem entry_setit_next:entryFor table "set_iterator.__next__"=some Builtin.«set_iterator.__next__» := entryFor_of_tree (by kernel_rfl)
theorem args_setit_next(a:Value):argsOk "set_iterator.__next__" ⟨[a],[]⟩:=by unfold argsOk; kernel_rfl
theorem entry_set_iter:entryFor table "set.__iter__"=some Builtin.«frozenset.__iter__» :=
 entryFor_alias (id':="frozenset.__iter__") (by kernel_rfl) rfl (by decide+kernel) (by kernel_rfl)
theorem setit_lookup:typeLookup (.type "set_iterator") "__next__"=pure (some (.builtin "set_iterator.__next__")):=slot_setit_next.lookup
theorem wpAny_choose{M:Model}{A:Around}{E:Value→Shared→Prop}{s:Shared}{src:Source}{n:Nat}{Q:Nat→Shared→Prop}(hn:n≠0)(h:∀ i d,i<n→Q i { s with drawn:=d }):wpAny M A (choose src n) Q E s:=by
 intro Γ p hΓ
 show Sem.wp M Γ (.choose src n .pure) _ _ p s
 rw[Sem.wp_choose]
 exact ⟨hn,by rw[Sem.wp_pure]; exact h _ _ (Nat.mod_lt _ (Nat.pos_of_ne_zero hn))⟩
theorem eraseIdx_perm{α:Type}(l:List α):∀ (i:Nat) (x:α) (_:l[i]? = some x),(x::l.eraseIdx i).Perm l:=by
 induction l with
 | nil=>exact fun i x h=>noS h
 | cons y r ih =>
  intro i x h
  cases i with
  | zero=>exact Option.some.inj h ▸ .refl _
  | succ i=>exact (List.Perm.swap _ _ _).trans ((ih i x h).cons y)
theorem wpAny_drawOrder{α:Type}{M:Model}{A:Around}{E:Value→Shared→Prop}(n:Nat):∀ (xs:List α) {s:Shared} {Q:List α→Shared→Prop},xs.length=n→(∀ ys d,ys.Perm xs→Q ys { s with drawn:=d })→wpAny M A (drawOrder n xs) Q E s:=by
 induction n with
 | zero =>
  intro xs s Q hl h
  obtain rfl:=List.length_eq_zero_iff.mp hl
  exact wpAny_pure (h [] s.drawn (.refl _))
 | succ n ih =>
  intro xs s Q hl h
  cases xs with
  | nil=>exact Nat.noConfusion hl
  | cons x xs =>
   refine wpAny_bind (wpAny_choose (Nat.succ_ne_zero xs.length) fun i d hi => ?_)
   have hy:(x::xs)[i]? = some (x::xs)[i]:=List.getElem?_eq_getElem hi
   rw[hy]
   exact wpAny_bind (ih ((x::xs).eraseIdx i) (by rw[List.length_eraseIdx_of_lt hi,hl]; rfl) fun ys d' hys=>wpAny_pure (h _ d' ((hys.cons _).trans (eraseIdx_perm _ i _ hy))))
theorem pick_go{α:Type}(next:Nat→Nat)(f:Nat):∀ (k:Nat) (left:List α) (out:Array α),left.length=f→(pickOrder.go next f k left out).toList.Perm (out.toList++left):=by
 induction f with
 | zero =>
  intro k left out hl
  obtain rfl:=List.length_eq_zero_iff.mp hl
  rw[List.append_nil]; exact .refl _
 | succ f ih =>
  intro k left out hl
  have hi:next k % left.length<left.length:=Nat.mod_lt _ (by rw[hl]; exact Nat.succ_pos f)
  show (match left[next k % left.length]? with | some x=>pickOrder.go next f (k+1) (left.eraseIdx (next k % left.length)) (out.push x) | none=>out).toList.Perm _
  rw[List.getElem?_eq_getElem hi]
  refine (ih (k+1) _ _ (by rw[List.length_eraseIdx_of_lt hi,hl]; rfl)).trans ?_
  rw[Array.toList_push,List.append_assoc]
  exact List.Perm.append_left _ (eraseIdx_perm left _ _ (List.getElem?_eq_getElem hi))
theorem pick_perm{α:Type}(next:Nat→Nat)(xs:Array α):(pickOrder next xs).toList.Perm xs.toList:=by
 exact pick_go next xs.size 0 xs.toList #[] rfl
section
variable {prog:Program} {w:World} {A:Around} {E:Value→Shared→Prop} {s:Shared}
noncomputable def SetIt(w:World)(h:Heap)(it a:Addr)(es:Array (Int×Value))(ep:Nat)(t:SetTable)(wk:List Value)(i:Nat):Prop :=
 ∃ first,h.get? it=some { cls := .type "set_iterator",data := .fields #[first,rawInt i,.ref a,rawInt es.size,rawInt ep] } ∧
  ((byText w∧(∃ z:Int,first=rawInt z)∧wk=(pickOrder (w.params.setOrder a ep) es).toList.map (·.2)) ∨
  (¬ byText w∧Ex3 fun (tp:Addr) (ps:List Nat) (k:Nat)=>first = .ref tp∧tp≠it∧h.get? tp=some { cls := .type "tuple",data := .seq (ps.map fun j:Nat=>rawInt j).toArray k }∧wk=ps.map (fun j=>(es.getD j (0,.none)).2)∧∀ j∈ps,j<es.size) ∨
  (¬ byText w∧es.size≤1∧t.led=true∧wk=es.toList.map (·.2)∧∃ z:Nat,first=rawInt z∧SetTable.below t.place z=i))
theorem below_one{p j:Nat}:SetTable.below #[p] j=if p<j then 1 else 0:=by kernel_rfl
theorem below_zero1{p:Nat}:SetTable.below #[p] 0=0:=below_one.trans (if_neg (Nat.not_lt_zero p))
theorem below_next1{p:Nat}:SetTable.below #[p] (p+1)=1:=below_one.trans (if_pos (Nat.lt_succ_self p))
theorem below_nil{j:Nat}:SetTable.below #[] j=0:=rfl
theorem s_setDrawn{a:Addr}{o:Obj}{es:Array (Int×Value)}{ep:Nat}{t:SetTable}{Q:Bool→Shared→Prop}(ho:s.heap.get? a=some o)(hd:o.data = .set es ep t)(hf:t.fits es.size=true)
  (h:Q (!w.params.followText "set-order"&&(!t.plain&&decide (es.size>1))) s):wpAny (model prog w) A (setDrawn a) Q E s:=by
 unfold setDrawn setsByText
 refine wpAny_bind (wpAny_setState_of ho hd hf ?_)
 refine wpAny_bind (wpAny_bind (wpAny_askSetting (wpAny_pure ?_)))
 refine wpAny_pure ?_
 exact h
end
end
section
section
variable {prog:Program} {w:World} {A:Around} {E:Value→Shared→Prop} {s:Shared} {a:Addr} {o:Obj} {es:Array (Int×Value)} {ep:Nat} {t:SetTable}
structure SetO (h:Heap) (a:Addr) (es:Array (Int×Value)) (ep:Nat) (t:SetTable):Prop where
 ob:∃ o,h.get? a=some o∧o.cls = .type "set"∧o.data = .set es ep t
 fits:t.fits es.size=true
theorem SetO.at'{h h':Heap}(x:SetO h a es ep t)(e:∀ o,h.get? a=some o→h'.get? a=some o):SetO h' a es ep t :=
 let ⟨⟨o,e1,e2⟩,f⟩:=x; ⟨⟨o,e o e1,e2⟩,f⟩
theorem s_pyIter_set{Q:Value→Shared→Prop}(X:SetO s.heap a es ep t)(hl:t.led=true∨byText w)(hp:es.size=0∨t.plain=false)(hb:es.size<scanBound)
  (hQ:∀ it wk s',wk.Perm (es.toList.map (·.2))→(∀ b o,s.heap.get? b=some o→s'.heap.get? b=some o)→s.heap.objs.size≤it→SetIt w s'.heap it a es ep t wk 0→s'.os=s.os→s'.gens=s.gens→Q (.ref it) s') :
  wpAny (model prog w) A (pyIter (.ref a)) Q E s:=by
 obtain ⟨⟨o,ho,hc,hd⟩,hf⟩:=id X
 have hT:s.TypeIs (.ref a) "set":=⟨o,ho,hc⟩
 refine wpAny_pyIter_slot hT F.slot_set_iter (wpAny_call_entry F.slot_set_iter hT entry_set_iter ?_ (F.args_set_iter_1 _))
 unfold Builtin.«frozenset.__iter__» Builtin.Frozenset.slot0 slotArgs
 simp only[List.isEmpty_nil,Bool.not_true,Bool.false_eq_true,↓reduceIte,bind_assoc,List.length_nil,bne_self_eq_false]
 refine wpAny_bind (m:=Builtin.Frozenset.addrOf _) (wpAny_pure ?_)
 unfold Builtin.Frozenset.sizeOf
 refine wpAny_bind (wpAny_bind (wpAny_setEntries_of ho hd hf (wpAny_pure ?_)))
 have fin:∀ (first:Value) (s1:Shared),(∀ b o,s.heap.get? b=some o→s1.heap.get? b=some o)→s.heap.objs.size≤s1.heap.objs.size→s1.os=s.os→s1.gens=s.gens→(∀ h' it,(∀ b o,s1.heap.get? b=some o→h'.get? b=some o)→h'.get? it=some { cls := .type "set_iterator",data := .fields #[first,rawInt (0:Nat),.ref a,rawInt es.size,rawInt ep] }→it=s1.heap.objs.size→∃ wk,wk.Perm (es.toList.map (·.2))∧SetIt w h' it a es ep t wk 0) →
   wpAny (model prog w) A.in1 (do let e ← setEpoch a; let it ← newFields "set_iterator" [first,rawInt 0,.ref a,rawInt es.size,rawInt e]; ret it) (fun fin s'=>∃ r,fin = .done (.ret r)∧∃ T' r',s'.TypeIs r T'∧typeLookup (.type T') "__next__"=pure (some r')∧Q r s') E s1:=fun first s1 hk hz h1 h2 hw=>by
  obtain ⟨⟨o1,ho1,hc1,hd1⟩,hf1⟩:=X.at' (fun o e=>hk a o e)
  refine wpAny_bind ?_
  unfold setEpoch
  refine wpAny_bind (wpAny_setState_of ho1 hd1 hf1 (wpAny_pure ?_))
  refine wpAny_bind ?_
  unfold newFields
  refine wpAny_newObj_type ?_ (by size_fits)
  obtain ⟨wk,hp,hi⟩:=hw _ s1.heap.objs.size (fun b o e=>Heap.get?_push_of_some _ e) (Heap.get?_push_size _ rfl) rfl
  exact wpAny_pure ⟨_,rfl,"set_iterator",_,⟨_,Heap.get?_push_size _ rfl,rfl⟩,setit_lookup,hQ _ wk _ hp (fun b o e=>Heap.get?_push_of_some _ (hk b o e)) hz hi h1 h2⟩
 have e63:scanBound=4096:=rfl
 refine wpAny_bind (m:=setDrawn a) (s_setDrawn ho hd hf ?_)
 by_cases hbt:byText w
 ·rw[show w.params.followText "set-order"=true from hbt]
  simp only[Bool.not_true,Bool.false_and,Bool.false_eq_true,if_false]
  exact fin (rawInt 0) s (fun ι ι e=>e) (Nat.le_refl _) rfl rfl fun h' it hk hi ι=>⟨_,(pick_perm _ _).map _,rawInt 0,hi,.inl ⟨hbt,⟨0,rfl⟩,rfl⟩⟩
 ·have hbf:w.params.followText "set-order"=false:=by simpa [byText] using hbt
  rw[hbf]
  have hled:t.led=true:=hl.resolve_right hbt
  by_cases h1:es.size>1
  ·have hpl:t.plain=false:=hp.resolve_left (by trivial)
   simp only[hpl,h1,decide_true,Bool.not_false,Bool.and_self,if_true]
   refine wpAny_bind (wpAny_drawOrder es.size (List.range es.size) (by simp) fun ys d hys => ?_)
   have hys':∀ j∈ys,j<es.size:=fun j hj=>by simpa using hys.mem_iff.mp hj
   refine wpAny_bind (wpAny_newTuple ?_ (by rw[List.length_map,hys.length_eq,List.length_range,sizeLine_eq]; trivial))
   refine fin _ _ (fun ι ι e=>Heap.get?_push_of_some _ e) (by show _≤(s.heap.push _).objs.size; rw[Heap.size_push]; trivial) rfl rfl fun h' it hk hi hit=>⟨ys.map (fun j=>(es.getD j (0,.none)).2),?_,.ref s.heap.objs.size,hi,.inr (.inl ⟨hbt,s.heap.objs.size,ys,0,rfl,?_,?_,rfl,hys'⟩)⟩
   ·refine (hys.map _).trans ?_
    have e:(List.range es.size).map (fun j=>(es.getD j (0,.none)).2)=es.toList.map (·.2):=by
     refine List.ext_getElem (by simp) fun i h1 h2 => ?_
     simp at h1 h2
     simp [h1]
    rw[e]
   ·rw[hit]; show _≠(s.heap.push _).objs.size; rw[Heap.size_push]; trivial
   ·exact hk _ _ (Heap.get?_push_size _ rfl)
  ·have e0:(!t.plain&&decide (es.size>1))=false:=by simp [h1]
   simp only[e0,Bool.not_false,Bool.true_and,Bool.false_eq_true,if_false]
   refine fin (rawInt 0) s (fun ι ι e=>e) (Nat.le_refl _) rfl rfl fun h' it hk hi ι=>⟨_,.refl _,rawInt 0,hi,.inr (.inr ⟨hbt,by trivial,hled,rfl,0,rfl,?_⟩)⟩
   simp only[SetTable.fits,Bool.and_eq_true,beq_iff_eq] at hf
   cases hpl:t.place with | mk l =>
   rw[hpl] at hf
   simp at hf
   match l,hf with
   | [],_=>exact below_nil
   | [p],_=>exact below_zero1
   | _::_::_,hf=>simp at hf; trivial
end
end
section
section
variable {prog:Program} {w:World} {A:Around} {E:Value→Shared→Prop} {s:Shared} {a it:Addr} {es:Array (Int×Value)} {ep:Nat} {t:SetTable} {wk:List Value} {i:Nat}
theorem s_setWalk_text(X:SetO s.heap a es ep t)(hb:byText w){Q:Array (Int×Value)→Shared→Prop}(h:Q (pickOrder (w.params.setOrder a ep) es) s):wpAny (model prog w) A (setWalk a) Q E s:=by
 obtain ⟨⟨o,ho,hc,hd⟩,hf⟩:=X
 unfold setWalk setsByText
 refine wpAny_bind (wpAny_setState_of ho hd hf ?_)
 refine wpAny_bind (wpAny_bind (wpAny_askSetting (wpAny_pure ?_)))
 rw[show (model prog w).w.params.followText "set-order"=true from hb]
 simp only[if_true]
 exact wpAny_bind (wpAny_askSetting (wpAny_pure h))
theorem s_setNext_text(X:SetO s.heap a es ep t)(hb:byText w){slot g:Nat}{Q:Option (Value×Nat)→Shared→Prop}(h:Q (((pickOrder (w.params.setOrder a ep) es)[g]?).map fun e=>(e.2,slot)) s):wpAny (model prog w) A (setNext a slot g ep) Q E s:=by
 obtain ⟨⟨o,ho,hc,hd⟩,hf⟩:=id X
 unfold setNext
 refine wpAny_bind (wpAny_setState_of ho hd hf ?_)
 dsimp only
 refine wpAny_bind (m:=setsByText) ?_
 unfold setsByText
 refine wpAny_bind (wpAny_askSetting (wpAny_pure ?_))
 rw[show (model prog w).w.params.followText "set-order"=true from hb]
 simp only[if_true,bne_self_eq_false,Bool.false_eq_true,if_false]
 exact wpAny_bind (s_setWalk_text X hb (wpAny_pure h))
theorem s_setNext_slot(X:SetO s.heap a es ep t)(hb:¬ byText w)(h1:es.size≤1)(hl:t.led=true){slot g:Nat}{Q:Option (Value×Nat)→Shared→Prop}
  (h:Q (match es[SetTable.below t.place slot]?,t.place[SetTable.below t.place slot]? with | some (_,x),some j=>some (x,j+1) | _,_=>none) s):wpAny (model prog w) A (setNext a slot g ep) Q E s:=by
 obtain ⟨⟨o,ho,hc,hd⟩,hf⟩:=id X
 have hbf:w.params.followText "set-order"=false:=by simpa [byText] using hb
 unfold setNext
 refine wpAny_bind (wpAny_setState_of ho hd hf ?_)
 dsimp only
 refine wpAny_bind (m:=setsByText) ?_
 unfold setsByText
 refine wpAny_bind (wpAny_askSetting (wpAny_pure ?_))
 refine wiF (by rw[show (model prog w).w.params.followText "set-order"=false from hbf]; exact Bool.false_ne_true) ?_
 refine wiF (fun q=>Nat.not_lt.mpr h1 (of_decide_eq_true (Bool.and_eq_true_iff.mp q).2)) ?_
 refine wpAny_bind (wiF (fun q => ?_) ?_)
 ·have:=(Bool.and_eq_true_iff.mp q).1
  rw[hl] at this; exact noB this
 exact wpAny_pure (wpAny_pure h)
theorem stop_new(hh:A.handled=none){h0:Heap}(hk:Heap.ExtBut it h0 s.heap){α:Type}{R:α→Shared→Prop}
  (hQ:∀ e h',Heap.ExtBut it h0 h'→Shared.TypeIs { s with heap:=h' } e "StopIteration"→E e { s with heap:=h' }) :
  wpAny (model prog w) A (do let e ← newExc (.type "StopIteration") []; raiseNew e:Sem α) R E s:=by
 refine wpAny_bind ?_
 unfold newExc newTuple
 refine wpAny_bind (wpAny_newObj_type ?_ (by size_fits))
 refine wpAny_bind (m:=firstArgMember _ _) (wpAny_of_eq (a:=Value.none) (by first | rfl | (simp only[firstArgMember]; rfl)) ?_)
 refine wpAny_newObj_type ?_ (by size_fits)
 unfold raiseNew
 refine wpAny_bind (wpAny_handled ?_)
 rw[hh]
 refine wpAny_bind (wpAny_pure (wpAny_throw (hQ _ _ ((hk.push _).push _) ?_)))
 exact ⟨_,Heap.get?_push_size _ rfl,rfl⟩
theorem fields_set{h:Heap}{it:Addr}{c:Value}{vs:Array Value}(k:Nat)(x:Value)(ho:h.get? it=some { cls:=c,data := .fields vs }):
  (h.update it (Obj.mapFields (·.setIfInBounds k x))).get? it=some { cls:=c,data := .fields (vs.setIfInBounds k x) }:=Heap.get?_update_self _ ho rfl
theorem next_core(hh:A.handled=none)(X:SetO s.heap a es ep t)(I:SetIt w s.heap it a es ep t wk i){P:PySem.Fin→Shared→Prop}
  (h1:∀ v h',wk[i]? = some v→Heap.SameBut it s.heap h'→SetIt w h' it a es ep t wk (i+1)→P (.done (.ret v)) { s with heap:=h' })
  (h2:∀ e h',wk[i]? = none→Heap.ExtBut it s.heap h'→Shared.TypeIs { s with heap:=h' } e "StopIteration"→E e { s with heap:=h' }):wpAny (model prog w) A (Builtin.«set_iterator.__next__» ⟨[.ref it],[]⟩) P E s:=by
 obtain ⟨⟨o,ho,hc,hd⟩,hf⟩:=id X
 obtain ⟨first,hi,hI⟩:=id I
 unfold Builtin.«set_iterator.__next__»
 refine wpAny_bind (wpAny_of_eq (a:=(.ref it,[])) rfl ?_)
 refine wpAny_bind (wpAny_fieldsOf hi rfl ?_)
 refine wpAny_bind (wpAny_setEntries_of ho hd hf ?_)
 refine wiF (by simp) ?_
 have wr:∀ {h':Heap} (k:Nat) (x:Value),Heap.SameBut it h' (h'.update it (Obj.mapFields (·.setIfInBounds k x))):=fun k x=>Heap.SameBut.update ..
 rcases hI with ⟨hb,⟨z,rfl⟩,hw⟩ | ⟨hb,tp,ps,k,rfl,htp,hps,hw,hlt⟩ | ⟨hb,hsz,hled,hw,z,rfl,hz⟩
 ·refine wpAny_bind (s_setNext_text X hb ?_)
  rw[Int.toNat_natCast]
  cases hx:(pickOrder (w.params.setOrder a ep) es)[i]? with
  | none =>
   have hn:wk[i]? = none:=by rw[hw,List.getElem?_map,Array.getElem?_toList,hx]; rfl
   exact wpAny_bind (wpAny_setField hi rfl (by simp) (stop_new (it:=it) (h0:=s.heap) hh (wr _ _).extBut fun e h'=>h2 e h' hn))
  | some e =>
   have hn:wk[i]? = some e.2:=by rw[hw,List.getElem?_map,Array.getElem?_toList,hx]; rfl
   refine wpAny_bind (wpAny_setField hi rfl (by simp) ?_)
   have hi2:=fields_set 0 (rawInt z.toNat) hi
   refine wpAny_bind (wpAny_setField hi2 rfl (by simp) ?_)
   have hi3:=fields_set 1 (rawInt ((i:Int)+1)) hi2
   exact wpAny_pure (h1 _ _ hn ((wr _ _).trans (wr _ _)) ⟨rawInt z.toNat,hi3,.inl ⟨hb,⟨_,rfl⟩,hw⟩⟩)
 ·refine wpAny_bind (wpAny_bind (wpAny_load hps (wpAny_pure ?_)))
  show wpAny _ _ (match (List.map (fun j:Nat=>rawInt j) ps).toArray[(i:Int).toNat]? with | some (.int place _)=>_ | some _=>_ | none=>_) _ _ _
  rw[Int.toNat_natCast,List.getElem?_toArray,List.getElem?_map]
  cases hx:ps[i]? with
  | none =>
   have hn:wk[i]? = none:=by rw[hw,List.getElem?_map,hx]; rfl
   refine wpAny_bind (wpAny_setField hi rfl (by simp) ?_)
   have hi2:=fields_set 0 (rawInt 0) hi
   exact wpAny_bind (wpAny_setField hi2 rfl (by simp) (stop_new (it:=it) (h0:=s.heap) hh ((wr _ _).trans (wr _ _)).extBut fun e h'=>h2 e h' hn))
  | some j =>
   have hj:j<es.size:=hlt j (List.mem_of_getElem? hx)
   have hn:wk[i]? = some es[j].2:=by rw[hw,List.getElem?_map,hx]; simp [hj]
   refine wpAny_bind (m:=setNextDrawn a j ep) ?_
   unfold setNextDrawn
   refine wpAny_bind (wpAny_setState_of ho hd hf ?_)
   refine wiF (by simp) ?_
   rw[Array.getElem?_eq_getElem hj]
   refine wpAny_pure (wpAny_bind (wpAny_setField hi rfl (by simp) ?_))
   have hi2:=fields_set 1 (rawInt ((i:Int)+1)) hi
   exact wpAny_pure (h1 _ _ hn (wr _ _) ⟨.ref tp,hi2,.inr (.inl ⟨hb,tp,ps,k,rfl,htp,(wr _ _).extBut _ _ htp hps,hw,hlt⟩)⟩)
 ·refine wpAny_bind (s_setNext_slot X hb hsz hled ?_)
  rw[Int.toNat_natCast,hz]
  have hpz:t.place.size=es.size:=(Bool.and_eq_true_iff.mp hf).1 |> beq_iff_eq.mp
  by_cases hie:i<es.size
  ·have hn:wk[i]? = some es[i].2:=by rw[hw,List.getElem?_map,Array.getElem?_toList,Array.getElem?_eq_getElem hie]; rfl
   rw[Array.getElem?_eq_getElem hie,Array.getElem?_eq_getElem (hpz▸hie:i<t.place.size)]
   refine wpAny_bind (wpAny_setField hi rfl (by simp) ?_)
   have hi2:=fields_set 0 (rawInt ((t.place[i]+1:Nat):Int)) hi
   refine wpAny_bind (wpAny_setField hi2 rfl (by simp) ?_)
   have hi3:=fields_set 1 (rawInt ((i:Int)+1)) hi2
   refine wpAny_pure (h1 _ _ hn ((wr _ _).trans (wr _ _)) ⟨rawInt ((t.place[i]+1:Nat):Int),hi3,.inr (.inr ⟨hb,hsz,hled,hw,_,rfl,?_⟩)⟩)
   cases Nat.lt_one_iff.mp (Nat.lt_of_lt_of_le hie hsz)
   have key:∀ (pl:Array Nat) (h0:0<pl.size),pl.size≤1→SetTable.below pl (pl[0]+1)=0+1:=fun pl h0 h1=>by
    cases pl with | mk l =>
    match l,h0,h1 with
    | [p],_,_=>exact below_next1
    | _::_::_,_,h1=>simp at h1
   exact key t.place (by trivial) (by trivial)
  ·have hn:wk[i]? = none:=by rw[hw,List.getElem?_map,Array.getElem?_toList,Array.getElem?_eq_none (by trivial)]; rfl
   rw[Array.getElem?_eq_none (by trivial:es.size≤i)]
   exact wpAny_bind (wpAny_setField hi rfl (by simp) (stop_new (it:=it) (h0:=s.heap) hh (wr _ _).extBut fun e h'=>h2 e h' hn))
theorem s_next_set(hh:A.handled=none)(X:SetO s.heap a es ep t)(I:SetIt w s.heap it a es ep t wk i){Q:Option Value→Shared→Prop}
  (h1:∀ v h',wk[i]? = some v→Heap.SameBut it s.heap h'→SetIt w h' it a es ep t wk (i+1)→Q (some v) { s with heap:=h' })
  (h2:∀ h',wk[i]? = none→Heap.ExtBut it s.heap h'→Q none { s with heap:=h' }):wpAny (model prog w) A (pyNext (.ref it)) Q E s:=by
 obtain ⟨first,hi,_⟩:=id I
 have hT:s.TypeIs (.ref it) "set_iterator":=⟨_,hi,rfl⟩
 unfold pyNext
 refine wpAny_bind (wpAny_attempt (wpAny_callSpecial?_slot (name:=Str.ofString "__next__") hT slot_setit_next
  (wpAny_call_entry slot_setit_next hT entry_setit_next ?_ (args_setit_next _))))
 exact next_core (A:=A.in1) hh X I (fun v h' a b c=>⟨_,rfl,wpAny_pure (h1 v h' a b c)⟩) fun e h' a b c=>wpAny_bind (wpAny_isInstance (T:="StopIteration") (b:=true) c isSubtype_stop (wiT rfl (wpAny_pure (h2 h' a b))))
end
end
section
theorem set_len_look:typeLookup (.type "set") "__len__"=pure (some (.builtin "set.__len__")):=by rw[typeLookup_type,builtinLookup_eq_fast]; kernel_rfl
section
variable {prog:Program} {w:World} {A:Around} {E:Value→Shared→Prop} {s:Shared} {a:Addr} {es:Array (Int×Value)} {ep:Nat} {t:SetTable} {wk:List Value}
theorem set_hint(hT:s.TypeIs (.ref a) "set"){Q:Bool→Shared→Prop}(h:Q false s):wpAny (model prog w) A (Builtin.List.listLengthHint (.ref a)) Q E s:=by
 unfold Builtin.List.listLengthHint
 refine wpAny_bind (wpAny_specialOf hT set_len_look ?_)
 generalize hid:("set.__len__":String)=id0
 wp_delta
 rw[show splitId id0=some ("set","__len__") from by subst hid; decide+kernel]
 subst hid
 refine wpAny_bind (wpAny_isInstance (T:="set") (b:=true) hT (by rw[isSubtype_type]; kernel_rfl) ?_)
 refine wpAny_ite_split (fun hab=>absurd hab (by decide)) (fun ι => ?_)
 refine wpAny_ite_split (fun ι => ?_) (fun hab=>absurd (by decide+kernel) hab)
 refine wpAny_bind (wpAny_typeOf hT ?_)
 exact wpAny_pure h
theorem set_loop{S I:Addr}{R:Result→Shared→Prop}(hh:A.handled=none)(hSI:S≠I)(hSa:a≠S)(hIa:I≠a)(hn:wk.length<scanBound)(res:Value){h₁:Heap}
  (hR:∀ h' c,(∀ b o,b≠S→b≠I→h₁.get? b=some o→h'.get? b=some o)→h'.get? S=some { cls := .type "list",dict:=none,data := .seq wk.toArray c,slots := #[] }→R (.ok (.ret res)) { s with heap:=h' }) :
  ∀ (k i:Nat) (h:Heap) (c:Nat),wk.length-i=k→i≤wk.length→SetIt w h I a es ep t wk i→SetO h a es ep t→(∀ b o,b≠S→b≠I→h₁.get? b=some o→h.get? b=some o) →
   h.get? S=some { cls := .type "list",dict:=none,data := .seq (wk.take i).toArray c,slots := #[] } →
   codeAny (model prog w) A (.builtin "list.extend.loop" ⟨[.ref S,.ref I,res],[]⟩) R { s with heap:=h }:=by
 intro k
 have e63:scanBound=4096:=rfl
 induction k with
 | zero =>
  intro i h c hk hi hst hD hkeep hS
  have hin:i=wk.length:=by trivial
  refine codeAny_builtin PySem.F.entry_extend_loop ?_
  rw[Around.under_plainId PySem.F.plain_extend_loop _]
  show wpAny _ A.in1 (pyNext (.ref I) >>= _) _ _ _
  refine wpAny_bind (s_next_set (s:={ s with heap:=h }) (A:=A.in1) hh hD hst (fun v h' hv ι ι => ?_) fun h' ι he => ?_)
  ·rw[List.getElem?_eq_none (by trivial)] at hv; first | contradiction | cases hv
  ·refine wpAny_pure (hR h' c (fun b o h1 h2 e=>he b o h2 (hkeep b o h1 h2 e)) (he S _ hSI ?_))
   rw[hin,List.take_length] at hS; exact hS
 | succ k ih =>
  intro i h c hk hi hst hD hkeep hS
  have hlt:i<wk.length:=by trivial
  refine codeAny_builtin PySem.F.entry_extend_loop ?_
  rw[Around.under_plainId PySem.F.plain_extend_loop _]
  show wpAny _ A.in1 (pyNext (.ref I) >>= _) _ _ _
  refine wpAny_bind (s_next_set (s:={ s with heap:=h }) (A:=A.in1) hh hD hst (fun v h' hv hsb hst' => ?_) fun h' hv ι => ?_)
  ·dsimp only
   have hS':=hsb.extBut S _ hSI hS
   have up:∀ b o,b≠S→h'.get? b=some o→(h'.update S (Obj.mapSeq (·.push v))).get? b=some o:=fun b o hb e=>(Heap.get?_update_other _ _ (Ne.symm hb)).trans e
   have htk:(wk.take i).toArray.push v=(wk.take (i+1)).toArray:=by
    rw[List.take_add_one,hv]; simp
   have hS2:(h'.update S (Obj.mapSeq (·.push v))).get? S=some { cls := .type "list",dict:=none,data := .seq ((wk.take i).toArray.push v) _,slots := #[] }:=Heap.get?_update_self _ hS' rfl
   rw[htk] at hS2
   show wpAny _ A.in1 (updateSeq S (·.push v) >>= _) _ _ _
   refine wpAny_bind ?_
   refine wpAny_updateSeq hS' rfl (wpAny_pure ⟨plainId_quiet PySem.F.plain_extend_loop _,ih (i+1) _ _ (by trivial) hlt ?_ ?_ (fun b o h1 h2 e=>up b o h1 (hsb.extBut b o h2 (hkeep b o h1 h2 e))) hS2⟩) ?_ ?_
   ·obtain ⟨first,e1,e2⟩:=hst'
    refine ⟨first,up _ _ (Ne.symm hSI) e1,?_⟩
    rcases e2 with e2 | ⟨q1,tp,ps,k,q2,q3,q4,q5⟩ | e2
    ·exact .inl e2
    ·exact .inr (.inl ⟨q1,tp,ps,k,q2,q3,up _ _ (fun q=>by rw[q,hS'] at q4; simp at q4) q4,q5⟩)
    ·exact .inr (.inr e2)
   ·exact hD.at' fun o e=>up a o hSa (hsb.extBut a o (Ne.symm hIa) e)
   ·simp only[List.size_toArray,List.length_take,sizeLine_eq]; trivial
   ·show ((wk.take i).toArray.push v).size≤sizeLine+1
    rw[Array.size_push,sizeLine_eq]; simp only[List.size_toArray,List.length_take]; trivial
  ·rw[List.getElem?_eq_getElem hlt] at hv; first | contradiction | cases hv
theorem set_collect{R:List Value→Shared→Prop}(hh:A.handled=none)(X:SetO s.heap a es ep t)(hl:t.led=true∨byText w)(hp:es.size=0∨t.plain=false)(hb:es.size<scanBound)
  (h:∀ wk s',wk.Perm (es.toList.map (·.2))→(∀ b o,s.heap.get? b=some o→s'.heap.get? b=some o)→s'.os=s.os→s'.gens=s.gens→R wk s') :
  wpAny (model prog w) A (collect (.ref a)) R E s:=by
 have e63:scanBound=4096:=rfl
 have ha:a<s.heap.objs.size:=let ⟨_,ho,_⟩:=X.ob; Heap.lt_size ho
 unfold collect
 refine wpAny_bind (wpAny_runValue (codeAny_builtin entry_proto_collect' ?_))
 rw[Around.under_plainId PySem.F.plain_proto_collect _]
 show wpAny _ A.in1 (newList [] >>= fun l=>again (.builtin "list.__iadd__" ⟨[l,.ref a],[]⟩)) _ _ s
 refine wpAny_bind (wpAny_newObj_type ?_)
 refine wpAny_pure ⟨plainId_quiet PySem.F.plain_list_iadd _,codeAny_builtin entry_list_iadd' ?_⟩
 rw[Around.under_plainId PySem.F.plain_list_iadd _]
 have hS₁:(s.heap.push { cls := .type "list",data := .seq ([]:List Value).toArray }).get? s.heap.objs.size=some { cls := .type "list",data := .seq #[] }:=Heap.get?_push_size _ rfl
 have X1:SetO (s.heap.push { cls := .type "list",data := .seq ([]:List Value).toArray }) a es ep t:=X.at' fun o e=>Heap.get?_push_of_some _ e
 have hT:Shared.TypeIs { s with heap:=s.heap.push { cls := .type "list",data := .seq ([]:List Value).toArray } } (.ref a) "set":=let ⟨o,ho,hc,_⟩:=X1.ob; ⟨o,ho,hc⟩
 show wpAny _ A.in1 (Builtin.List.listExtendWith (.ref s.heap.objs.size) (.ref a) (.ref s.heap.objs.size)) _ _ _
 unfold Builtin.List.listExtendWith
 refine wpAny_bind (wpAny_typeOf (T:="set") hT ?_)
 have h1:Builtin.List.listSameRef (.ref s.heap.objs.size) (.ref a)=false:=decide_eq_false (Nat.ne_of_gt ha)
 have h2:(Value.type "set"==Value.type "list")=false:=by decide
 have h3:(Value.type "set"==Value.type "tuple")=false:=by decide
 refine wiF (by rw[h1,h2,h3]; exact Bool.false_ne_true) ?_
 refine wpAny_bind (s_pyIter_set X1 hl hp hb fun it wk s' hpm hk hit hst hos hgs => ?_)
 have hS':=hk _ _ hS₁
 have hsz:(s.heap.push { cls := .type "list",data := .seq ([]:List Value).toArray }).objs.size=s.heap.objs.size+1:=by rw[Heap.size_push]
 replace hit:s.heap.objs.size+1≤it:=by rw[← hsz]; exact hit
 have X2:=X1.at' fun o e=>hk a o e
 have hT2:s'.TypeIs (.ref a) "set":=let ⟨o,ho,hc,_⟩:=X2.ob; ⟨o,ho,hc⟩
 have hwl:wk.length=es.size:=by rw[hpm.length_eq]; simp
 have hfin:∀ {R':Result→Shared→Prop} (h0:Heap) (c:Nat),(∀ b o,b≠s.heap.objs.size→s'.heap.get? b=some o→h0.get? b=some o)→h0.get? s.heap.objs.size=some { cls := .type "list",dict:=none,data := .seq #[] c,slots := #[] } →
   (∀ h' c,(∀ b o,s.heap.get? b=some o→h'.get? b=some o)→h'.get? s.heap.objs.size=some { cls := .type "list",dict:=none,data := .seq wk.toArray c,slots := #[] }→R' (.ok (.ret (.ref s.heap.objs.size))) { s' with heap:=h' }) →
   codeAny (model prog w) A (.builtin "list.extend.loop" ⟨[.ref s.heap.objs.size,.ref it,.ref s.heap.objs.size],[]⟩) R' { s' with heap:=h0 }:=fun {R'} h0 c hk0 hS0 hr=>by
  refine set_loop (es:=es) (ep:=ep) (t:=t) (a:=a) (wk:=wk) hh (Nat.ne_of_lt hit) (Nat.ne_of_lt ha) (Nat.ne_of_gt (Nat.lt_trans ha hit)) (by trivial) _ (h₁:=s.heap) (fun h' c' hk' hS2=>hr h' c' (fun b o e=>hk' b o (Nat.ne_of_lt (Heap.lt_size e)) (Nat.ne_of_lt (Nat.lt_trans (Heap.lt_size e) hit)) e) hS2) wk.length 0 h0 c (by trivial) (Nat.zero_le _) ?_ (X2.at' fun o e=>hk0 a o (Nat.ne_of_lt ha) e) (fun b o hb ι e=>hk0 b o hb (hk b o (Heap.get?_push_of_some _ e))) hS0
  obtain ⟨first,e1,e2⟩:=hst
  refine ⟨first,hk0 _ _ (Nat.ne_of_gt hit) e1,?_⟩
  rcases e2 with e2 | ⟨q1,tp,ps,k,q2,q3,q4,q5⟩ | e2
  ·exact .inl e2
  ·exact .inr (.inl ⟨q1,tp,ps,k,q2,q3,hk0 _ _ (fun q=>by rw[q,hS'] at q4; simp at q4) q4,q5⟩)
  ·exact .inr (.inr e2)
 have out:∀ (h':Heap) (c:Nat),(∀ b o,s.heap.get? b=some o→h'.get? b=some o)→h'.get? s.heap.objs.size=some { cls := .type "list",dict:=none,data := .seq wk.toArray c,slots := #[] } →
   wpAny (model prog w) A (do match (Value.ref s.heap.objs.size) with
    | .ref a=>match (← load a).data with
     | .seq xs _=>pure xs.toList
     | _=>unsupported "internal:collect"
    | _=>unsupported "internal:collect") R E { s' with heap:=h' }:=fun h' c hk' hS2=>by
  show wpAny _ A (load s.heap.objs.size >>= _) _ _ _
  refine wpAny_bind (wpAny_load hS2 ?_)
  exact wpAny_pure (h wk _ hpm hk' hos hgs)
 refine wpAny_bind (wpAny_holding (set_hint hT2 ?_))
 refine wpAny_ite_split (fun ι => ?_) (fun ι=>wpAny_pure ⟨plainId_quiet PySem.F.plain_extend_loop _,?_⟩)
 ·refine wpAny_bind (wpAny_rule ?_)
  refine wpAny_bind ?_
  show wpAny _ _ (updateSeq s.heap.objs.size (·.push .none) >>= fun ι=>updateSeq s.heap.objs.size (·.pop)) _ _ _
  refine wpAny_bind (wpAny_updateSeq hS' rfl ?_)
  have hS₂:=Heap.get?_update_self (Obj.mapSeq (·.push Value.none)) hS' rfl
  refine wpAny_updateSeq (hz:=by seq_fits) hS₂ rfl ?_
  have hS₃:=Heap.get?_update_self (Obj.mapSeq (·.pop)) hS₂ rfl
  refine wpAny_pure ⟨plainId_quiet PySem.F.plain_extend_loop _,hfin _ _ (fun b o hb e => ?_) hS₃ fun h' c hk' hS2=>out h' c hk' hS2⟩
  exact (Heap.get?_update_other _ _ (Ne.symm hb)).trans ((Heap.get?_update_other _ _ (Ne.symm hb)).trans e)
 ·exact hfin s'.heap _ (fun ι ι ι e=>e) hS' fun h' c hk' hS2=>out h' c hk' hS2
end
end
section
noncomputable def addL(ks:List Str)(k:Str):List Str:=if ks.contains k then ks else k::ks
noncomputable def addAll(ks:List Str)(l:List Str):List Str:=l.foldl addL ks
section
variable {prog:Program} {w:World} {A:Around} {E:Value→Shared→Prop} {s:Shared} {a:Addr}
noncomputable abbrev SetL(prog:Program)(w:World)(h:Heap)(a:Addr)(ks:List Str):Prop:=SetX prog w h a (fun k=>ks.contains k) ks.length∧ks.Nodup
theorem SetX.congr{h:Heap}{S S':Str→Bool}{n n':Nat}(x:SetX prog w h a S n)(hS:∀ k,S' k=S k)(hn:n'=n):SetX prog w h a S' n':=by
 obtain rfl:S'=S:=funext hS
 subst hn; exact x
theorem addL_nodup{ks:List Str}{k:Str}(h:ks.Nodup):(addL ks k).Nodup:=by
 unfold addL
 split
 ·exact h
 ·rename_i hc; exact List.nodup_cons.mpr ⟨fun q=>hc (by simpa using q),h⟩
theorem SetX.addL{h:Heap}{ks:List Str}{k:Str}(x:SetX prog w h a (fun k'=>ks.contains k'||decide (k'=k)) (if ks.contains k then ks.length else ks.length+1)):SetX prog w h a (fun k'=>(addL ks k).contains k') (addL ks k).length:=by
 unfold Mine.addL
 cases hk:ks.contains k with
 | true =>
  rw[hk] at x
  simp only[if_true] at x ⊢
  refine x.congr (fun k' => ?_) rfl
  by_cases e:k'=k
  ·subst e; rw[hk]; rfl
  ·simp [e]
 | false =>
  rw[hk] at x
  simp only[Bool.false_eq_true,if_false] at x ⊢
  refine x.congr (fun k' => ?_) rfl
  simp [Bool.or_comm,List.contains_cons,eq_comm]
theorem s_addL{ks:List Str}{k:Str}{u:Tok}{Q:Bool→Shared→Prop}(hX:SetL prog w s.heap a ks)(hroom:ks.length+1<scanBound)
  (h:∀ b h',Heap.SameBut a s.heap h'→SetL prog w h' a (addL ks k)→Q b { s with heap:=h' }) :
  wpAny (model prog w) A (setAddHashed a (.str k u) ((PySem.strKind prog w).hash k)) Q E s :=
 setAddX hX.1 hroom fun h' hs x=>h _ h' hs ⟨x.addL,addL_nodup hX.2⟩
theorem s_setAdd{ks:List Str}{k:Str}{u:Tok}{Q:Bool→Shared→Prop}(hX:SetL prog w s.heap a ks)(hroom:ks.length+1<scanBound)
  (h:∀ b h',Heap.SameBut a s.heap h'→SetL prog w h' a (addL ks k)→Q b { s with heap:=h',toks:=s.toks+1 }) :
  wpAny (model prog w) A (setAdd a (.str k u)) Q E s:=by
 unfold setAdd
 exact wpAny_holding (wpAny_bind ((PySem.strKind prog w).pyHash (strKind_is _ _ _ _) (s_addL (s:={ s with toks:=s.toks+1 }) hX hroom h)))
theorem addAll_len(ks l:List Str):(addAll ks l).length≤ks.length+l.length:=by
 induction l generalizing ks with
 | nil=>simp [addAll]
 | cons k l ih =>
  have:=ih (addL ks k)
  have h2:(addL ks k).length≤ks.length+1:=by unfold addL; split <;> simp
  show (addAll (addL ks k) l).length≤_
  simp only[List.length_cons]; trivial
theorem addAll_snoc(ks l:List Str)(k:Str):addAll ks (l++[k])=addL (addAll ks l) k:=by simp [addAll]
theorem c_set_add{ks:List Str}{k:Str}{u:Tok}{Q:Value→Shared→Prop}(hX:SetL prog w s.heap a ks)(hroom:ks.length+1<scanBound)
  (h:∀ h',Heap.SameBut a s.heap h'→SetL prog w h' a (addL ks k)→Q .none { s with heap:=h',toks:=s.toks+1 }) :
  wpAny (model prog w) A (call (.builtin "set.add") [.ref a,.str k u]) Q E s:=by
 refine wpAny_call_entry F.slot_set_add hX.1.set.typeIs F.entry_set_add ?_ (F.args_set_add_2 _ _)
 unfold Builtin.«set.add» Builtin.Frozenset.oneOther
 simp only[List.isEmpty_nil,bind_assoc]
 unfold Builtin.Frozenset.addrOf
 refine wpAny_bind (wpAny_pure ?_)
 try dsimp only
 refine wpAny_bind (wpAny_pure ?_)
 try dsimp only
 refine wpAny_bind (s_setAdd hX hroom fun b h' hs hL => ?_)
 show wpAny _ _ (ret Value.none) _ _ _
 exact wpAny_pure ⟨_,rfl,h h' hs hL⟩
theorem str_of_is{k:Str}{v:Value}(h:(PySem.strKind prog w).is k v=true):∃ t,v = .str k t:=by
 cases v <;> simp [PySem.strKind,Value.isStrOf] at h
 subst h; exact ⟨_,rfl⟩
theorem pairs_get{knd:KeyKind prog w Str}{es:List DictEntry}{kvs:List (Str×Value)}(h:Pairs knd es kvs):∀ {i:Nat} {e:DictEntry},es[i]? = some e→∃ kv,kvs[i]? = some kv∧knd.is kv.1 e.key=true:=by
 induction h with
 | nil=>exact fun e=>noS e
 | cons a b c ih =>
  intro i e h
  cases i with
  | zero=>exact ⟨_,rfl,Option.some.inj h▸a⟩
  | succ i=>exact ih h
theorem star_loop{d:Addr}{od:Obj}{des:Array DictEntry}{dep:Nat}{kvs:List (Str×Value)}{ks:List Str}(hd:od.data = .dict des dep)(hda:d≠a)(hK:KeysOf (PySem.strKind prog w) des)(hP:Pairs (PySem.strKind prog w) des.toList kvs)
  (hroom:ks.length+kvs.length+1<scanBound) {β:Type} {f:Nat→β→Sem (ForInStep β)} {b₀:β} {Q:β→Shared→Prop}
  (hf:∀ i (s:Shared) (R:ForInStep β→Shared→Prop),s.heap.get? d=some od→(∀ e,des[i]? = some e→wpAny (model prog w) A (setAddHashed a e.key e.hash) (fun ι s'=>s'.heap.get? d=some od∧R (.yield b₀) s') E s)→i<des.size→wpAny (model prog w) A (f i b₀) R E s) :
  ∀ (n i:Nat) (s:Shared),i+n=des.size→s.heap.get? d=some od→SetL prog w s.heap a (addAll ks ((kvs.map (·.1)).take i)) →
   (∀ h',Heap.SameBut a s.heap h'→SetL prog w h' a (addAll ks (kvs.map (·.1)))→Q b₀ { s with heap:=h' }) →
   wpAny (model prog w) A (forIn (List.range' i n) b₀ f) Q E s:=by
 have hlen:kvs.length=des.size:=by rw[← hP.length]; simp
 intro n
 induction n with
 | zero =>
  intro i s hi hod hX h
  rw[List.range'_zero,List.forIn_nil]
  have e:(kvs.map (·.1)).take i=kvs.map (·.1):=List.take_of_length_le (by simp; trivial)
  rw[e] at hX
  exact wpAny_pure (h s.heap (Heap.SameBut.refl _ _) hX)
 | succ n ih =>
  intro i s hi hod hX h
  rw[List.range'_succ,List.forIn_cons]
  refine wpAny_bind (hf i s _ hod (fun e he => ?_) (by trivial))
  have he':des.toList[i]? = some e:=by rw[Array.getElem?_toList]; exact he
  obtain ⟨kv,hkv,his⟩:=pairs_get hP he'
  obtain ⟨k2,hk2,hh⟩:=hK e (Array.mem_of_getElem? he)
  obtain rfl:=(PySem.strKind prog w).inj _ _ _ hk2 his
  obtain ⟨u,hu⟩:=str_of_is his
  rw[hh,hu]
  have hl:=addAll_len ks ((kvs.map (·.1)).take i)
  have hl2:((kvs.map (·.1)).take i).length≤kvs.length:=by simp; trivial
  refine s_addL hX (by trivial) fun b h' hs hL=>⟨hs.extBut d _ hda hod,?_⟩
  refine ih (i+1) { s with heap:=h' } (by trivial) (hs.extBut d _ hda hod) ?_ fun h'' hs2 hL2=>h h'' (hs.trans hs2) hL2
  have e2:(kvs.map (·.1)).take (i+1)=(kvs.map (·.1)).take i++[kv.1]:=by
   rw[List.take_add_one,List.getElem?_map,hkv]; rfl
  rw[e2,addAll_snoc]; exact hL
end
end
section
theorem sub_dict_set:isSubtype (.type "dict") (.type "set")=pure false:=by rw[isSubtype_type]; kernel_rfl
theorem sub_dict_frozenset:isSubtype (.type "dict") (.type "frozenset")=pure false:=by rw[isSubtype_type]; kernel_rfl
theorem lt_zero{P:Nat→Prop}:∀ i,i<0→P i:=fun i h=>absurd h (Nat.not_lt_zero i)
theorem lt_more{P:Nat→Prop}{n:Nat}(hn:P n)(h:∀ i,i<n→P i):∀ i,i<n+1→P i:=fun i hi=>(Nat.lt_succ_iff_lt_or_eq.mp hi).elim (h i) fun e=>e▸hn
theorem lay1(i p:Nat)(hi:i<16):SetTable.layClean.free 15 (Array.replicate 16 none) 30 i p=some i:=by
 revert i
 exact (lt_more (n:=15) rfl (lt_more (n:=14) rfl (lt_more (n:=13) rfl (lt_more (n:=12) rfl (lt_more (n:=11) rfl (lt_more (n:=10) rfl (lt_more (n:=9) rfl (lt_more (n:=8) rfl (lt_more (n:=7) rfl (lt_more (n:=6) rfl (lt_more (n:=5) rfl (lt_more (n:=4) rfl (lt_more (n:=3) rfl (lt_more (n:=2) rfl (lt_more (n:=1) rfl (lt_more (n:=0) rfl lt_zero))))))))))))))))
theorem live1(i:Nat)(hi:i<16):(List.range 16).filterMap (fun j=>(((Array.replicate 16 none).setIfInBounds i (some 0):Array (Option Nat)).getD j none).map (j,·))=[(i,0)]:=by
 revert i
 exact (lt_more (n:=15) (by decide+kernel) (lt_more (n:=14) (by decide+kernel) (lt_more (n:=13) (by decide+kernel) (lt_more (n:=12) (by decide+kernel) (lt_more (n:=11) (by decide+kernel) (lt_more (n:=10) (by decide+kernel) (lt_more (n:=9) (by decide+kernel) (lt_more (n:=8) (by decide+kernel) (lt_more (n:=7) (by decide+kernel) (lt_more (n:=6) (by decide+kernel) (lt_more (n:=5) (by decide+kernel) (lt_more (n:=4) (by decide+kernel) (lt_more (n:=3) (by decide+kernel) (lt_more (n:=2) (by decide+kernel) (lt_more (n:=1) (by decide+kernel) (lt_more (n:=0) (by decide+kernel) lt_zero))))))))))))))))
noncomputable def tab16(t:SetTable)(h:Int):SetTable:={ mask:=15,place := #[SetTable.bits h % 16],dummies := #[],finger:=t.finger,led:=t.led,moves:=t.movedTo 15,plain:=t.plain }
theorem relaid1(t:SetTable)(h:Int):t.relaid #[h] 10=some (tab16 t h,#[0]):=by
 have hi:SetTable.bits h % 16<16:=Nat.mod_lt _ (by decide)
 have e1:SetTable.layClean 15 #[h]=some ((Array.replicate 16 none).setIfInBounds (SetTable.bits h % 16) (some 0)):=by
  show (Option.map _ ((some (Array.replicate 16 none,0)).bind fun x=>(SetTable.layClean.free 15 x.1 30 (SetTable.bits h % 16) (SetTable.bits h)).bind fun j=>some (x.1.setIfInBounds j (some x.2),x.2+1)))=_
  rw[Option.bind_some,lay1 _ _ hi]; rfl
 show SetTable.laid 15 t.finger (t.movedTo 15) t.led t.plain #[h]=_
 unfold SetTable.laid
 rw[e1]
 have e2:=live1 _ hi
 show (do let owner ← some ((Array.replicate 16 none).setIfInBounds (SetTable.bits h % 16) (some 0)); let live:=(List.range 16).filterMap (fun j=>(owner.getD j none).map (j,·)); (pure ({ mask:=15,place:=(live.map (fun x:Nat×Nat=>x.1)).toArray,dummies := #[],finger:=t.finger,led:=t.led,moves:=t.movedTo 15,plain:=t.plain },(live.map (fun x:Nat×Nat=>x.2)).toArray):Option (SetTable×Array Nat)))=_
 rw[Option.bind_eq_bind,Option.bind_some]
 show some (({ mask:=15,place:=(((List.range 16).filterMap (fun j=>(((Array.replicate 16 none).setIfInBounds (SetTable.bits h % 16) (some 0):Array (Option Nat)).getD j none).map (j,·))).map (·.1)).toArray,dummies := #[],finger:=t.finger,led:=t.led,moves:=t.movedTo 15,plain:=t.plain }:SetTable),(((List.range 16).filterMap (fun j=>(((Array.replicate 16 none).setIfInBounds (SetTable.bits h % 16) (some 0):Array (Option Nat)).getD j none).map (j,·))).map (·.2)).toArray)=_
 rw[e2]; rfl
theorem fits16(t:SetTable)(h:Int)(n:Nat)(hn:n=1):(tab16 t h).fits n=true:=by
 subst hn
 simp [SetTable.fits,tab16,SetTable.fill]
section
variable {prog:Program} {w:World} {A:Around} {E:Value→Shared→Prop} {s:Shared} {a d:Addr} {kvs:List (Str×Value)} {ks:List Str}
theorem noRoom(hX:SetL prog w s.heap a [k0]){n:Nat}(hn:n≤3){Q:Unit→Shared→Prop}(h:Q () s):wpAny (model prog w) A (setRoomFor a n) Q E s:=by
 obtain ⟨⟨⟨o,es,ep,t,ho,hex,hd,hel,hmem,hb,hf,hn'⟩,o',es',ep',t',ho',hd',hl,hp,hsm⟩,_⟩:=hX
 rw[ho] at ho'; first | contradiction | cases ho'
 rw[hd] at hd'; first | contradiction | cases hd'
 unfold setRoomFor
 refine wpAny_bind (wpAny_setState_of ho hd hf ?_)
 dsimp only
 have hz:es.size=1:=by simpa using hn'
 obtain ⟨q1,q2⟩:=hsm (by trivial)
 have hr:t.roomFor n=none:=by
  unfold SetTable.roomFor SetTable.fill
  simp only[SetTable.fits,Bool.and_eq_true,beq_iff_eq] at hf
  rw[if_neg (by rw[hf.1,q1,hz]; trivial)]
 rw[hr]
 exact wpAny_pure h
theorem anyRoom(hX:SetL prog w s.heap a [k0]){n:Nat}(hn:n≤4){Q:Unit→Shared→Prop}(h:∀ h',Heap.SameBut a s.heap h'→SetL prog w h' a [k0]→Q () { s with heap:=h' }):wpAny (model prog w) A (setRoomFor a n) Q E s:=by
 by_cases h3:n≤3
 ·exact noRoom hX h3 (h s.heap (Heap.SameBut.refl _ _) hX)
 obtain rfl:n=4:=by trivial
 obtain ⟨⟨⟨o,es,ep,t,ho,hex,hd,hel,hmem,hb,hf,hn'⟩,o',es',ep',t',ho',hd',hl,hp,hsm⟩,hnd⟩:=id hX
 rw[ho] at ho'; first | contradiction | cases ho'
 rw[hd] at hd'; first | contradiction | cases hd'
 have hz:es.size=1:=by simpa using hn'
 obtain ⟨q1,q2⟩:=hsm (by trivial)
 obtain ⟨⟨h0,v0⟩,rfl⟩:∃ e,es = #[e]:=by
  obtain ⟨l⟩:=es
  cases l with
  | nil=>exact absurd hz (by simp)
  | cons e l=>cases l with
   | nil=>exact ⟨e,rfl⟩
   | cons f l=>exact absurd hz (by simp)
 have hpl:t.place.size=1:=by simp only[SetTable.fits,Bool.and_eq_true,beq_iff_eq] at hf; exact hf.1
 unfold setRoomFor
 refine wpAny_bind (wpAny_setState_of ho hd hf ?_)
 dsimp only
 by_cases hr2:(t.fill+4)*5≥t.mask*3
 ·have hr:t.roomFor 4=some 10:=(if_pos hr2).trans (by rw[hpl])
  rw[hr]
  dsimp only
  unfold setRelay
  refine wpAny_bind (wpAny_setState_of ho hd hf ?_)
  dsimp only
  rw[if_neg (by rw[sizeLine_eq]; decide)]
  rw[show Array.map (fun x:Int×Value=>x.1) #[(h0,v0)] = #[h0] by simp,relaid1]
  refine wpAny_bind (wpAny_pure (a:=(#[(h0,v0)],_)) ?_)
  dsimp only
  refine wpAny_storeSet_of ho hd ?_ (by rw[sizeLine_eq]; show 1≤16777216; decide)
  obtain ⟨g1,g2⟩:=SetOf_store (knd:=PySem.strKind prog w) (es' := #[(h0,v0)]) (t':=tab16 t h0) ho hex hd hel hmem (by show 1<4096; decide) (fits16 t h0 _ rfl)
  refine h _ (Heap.SameBut.update _ _ _) ⟨⟨g2,_,_,_,_,g1,rfl,hl,hp,fun ι=>⟨rfl,by show 7≤15; decide⟩⟩,hnd⟩
 ·rw[show t.roomFor 4=none from if_neg hr2]
  exact wpAny_pure (h s.heap (Heap.SameBut.refl _ _) hX)
theorem upd_loop{I:Addr}{ep:Nat}{R:Result→Shared→Prop}(hh:A.handled=none)(hIa:I≠a)(hda:d≠a)(hId:d≠I)(hroom:ks.length+kvs.length+1<scanBound){h₁:Heap}
  (hR:∀ h' tk,(∀ b o,b≠a→b≠I→h₁.get? b=some o→h'.get? b=some o)→SetL prog w h' a (addAll ks (kvs.map (·.1)))→R (.ok (.ret .none)) { s with heap:=h',toks:=tk }) :
  ∀ (n i:Nat) (h:Heap) (tk:Nat),i+n=kvs.length→h.IsKeyIter I d i kvs.length ep→h.DictAt (PySem.strKind prog w) d kvs ep→(∀ b o,b≠a→b≠I→h₁.get? b=some o→h.get? b=some o) →
   SetL prog w h a (addAll ks ((kvs.map (·.1)).take i))→codeAny (model prog w) A (.builtin "set.update.loop" ⟨[.ref a,.ref I],[]⟩) R { s with heap:=h,toks:=tk }:=by
 intro n
 induction n with
 | zero =>
  intro i h tk hi hit hm hk hX
  refine codeAny_builtin F.entry_set_update_loop ?_
  rw[Around.under_plainId F.plain_set_update_loop _]
  show wpAny _ A.in1 (pyNext (.ref I) >>= _) _ _ _
  refine wpAny_bind (wpAny_pyNext_dict_end (s:={ s with heap:=h,toks:=tk }) (A:=A.in1) hh hit hm (List.getElem?_eq_none (by trivial)) fun h' he => ?_)
  show wpAny _ A.in1 (ret Value.none) _ _ _
  have e:(kvs.map (·.1)).take i=kvs.map (·.1):=List.take_of_length_le (by simp; trivial)
  rw[e] at hX
  refine wpAny_pure (hR h' tk (fun b o h1 h2 q=>he b o h2 (hk b o h1 h2 q)) ?_)
  obtain ⟨⟨⟨o,es,ep,t,ho,r⟩,o',es',ep',t',ho',r'⟩,nd⟩:=hX
  exact ⟨⟨⟨o,es,ep,t,he a _ (Ne.symm hIa) ho,r⟩,o',es',ep',t',he a _ (Ne.symm hIa) ho',r'⟩,nd⟩
 | succ n ih =>
  intro i h tk hi hit hm hk hX
  refine codeAny_builtin F.entry_set_update_loop ?_
  rw[Around.under_plainId F.plain_set_update_loop _]
  show wpAny _ A.in1 (pyNext (.ref I) >>= _) _ _ _
  obtain ⟨⟨kk,x⟩,hx⟩:∃ p,kvs[i]? = some p:=⟨kvs[i],List.getElem?_eq_getElem (by trivial)⟩
  refine wpAny_bind (wpAny_pyNext_dict_item (s:={ s with heap:=h,toks:=tk }) (A:=A.in1) hit hm hx fun key h' hkey hit' hsb => ?_)
  obtain ⟨u,rfl⟩:=str_of_is hkey
  have hX':SetL prog w h' a (addAll ks ((kvs.map (·.1)).take i)):=by
   obtain ⟨⟨⟨o,es,ep,t,ho,r⟩,o',es',ep',t',ho',r'⟩,nd⟩:=hX
   exact ⟨⟨⟨o,es,ep,t,hsb.extBut a _ (Ne.symm hIa) ho,r⟩,o',es',ep',t',hsb.extBut a _ (Ne.symm hIa) ho',r'⟩,nd⟩
  have hl:=addAll_len ks ((kvs.map (·.1)).take i)
  have hl2:((kvs.map (·.1)).take i).length≤kvs.length:=by simp; trivial
  show wpAny _ A.in1 (holding [_] (setAdd a (.str kk u)) >>= _) _ _ _
  refine wpAny_bind (wpAny_holding (s_setAdd (s:={ s with heap:=h',toks:=tk }) hX' (by trivial) fun b h2 hs2 hL => ?_))
  refine wpAny_pure ⟨plainId_quiet F.plain_set_update_loop _,ih (i+1) h2 (tk+1) (by trivial) (hit'.at fun o e=>hs2.extBut I _ hIa e) (hm.at' fun o e=>hs2.extBut d _ hda (hsb.extBut d _ hId e)) (fun b o h1 h2 e=>hs2.extBut b o h1 (hsb.extBut b o h2 (hk b o h1 h2 e))) ?_⟩
  have e2:(kvs.map (·.1)).take (i+1)=(kvs.map (·.1)).take i++[kk]:=by
   rw[List.take_add_one,List.getElem?_map,hx]; rfl
  rw[e2,addAll_snoc]; exact hL
theorem s_star(hh:A.handled=none){k0:Str}(hX:SetL prog w s.heap a [k0])(hD:s.heap.DictOf (PySem.strKind prog w) d kvs)(hsys:(d==sysModules)=false)(hda:d≠a)(hn:kvs.length≤4){Q:Unit→Shared→Prop}
  (h:∀ h' tk,(∀ b o,b≠a→s.heap.get? b=some o→h'.get? b=some o)→SetL prog w h' a (addAll [k0] (kvs.map (·.1)))→Q () { s with heap:=h',toks:=tk }):wpAny (model prog w) A (setDisplayStar a (.ref d)) Q E s:=by
 have e63:scanBound=4096:=rfl
 obtain ⟨od,des,dep,hod,hex,hdd,hK,hP,hnd⟩:=id hD
 have hT:s.TypeIs (.ref d) "dict":=hD.typeIs
 have hlen:kvs.length=des.size:=by rw[← hP.length]; simp
 unfold setDisplayStar
 dsimp only
 refine wpAny_bind (m:=isInstance (.ref d) (.type "set")) (wpAny_isInstance hT sub_dict_set ?_)
 refine wpAny_bind (m:=isInstance (.ref d) (.type "frozenset")) (wpAny_isInstance hT sub_dict_frozenset ?_)
 refine wpAny_bind (wpAny_askSetting ?_)
 cases hbt:(model prog w).w.params.followText "set-display-star-reads-storage" with
 | false =>
  simp only[hbt,Bool.false_eq_true,if_false]
  refine wpAny_bind (wpAny_typeOf hT ?_)
  simp only[beq_self_eq_true,if_true]
  refine wpAny_bind (wpAny_rule ?_)
  rw[hsys]
  simp only[Bool.false_eq_true,if_false]
  refine wpAny_bind (wpAny_dictEpoch hod hdd ?_)
  refine wpAny_bind (wpAny_dictEntries hod hdd ?_)
  refine wpAny_bind (anyRoom hX (by trivial) fun h0 hs0 hX0 => ?_)
  simp only[Std.Legacy.Range.forIn_eq_forIn_range',Std.Legacy.Range.size]
  have hr:(des.size-0+1-1)/1=des.size:=by trivial
  rw[hr]
  refine wpAny_bind (star_loop (od:=od) (des:=des) (dep:=dep) (kvs:=kvs) (ks:=[k0]) hdd hda hK hP (by simp; trivial) (fun i s1 R ho1 hb hi => ?_) des.size 0 { s with heap:=h0 } (by trivial) (hs0.extBut _ _ hda hod) (by simpa [addAll] using hX0) fun h' hs hL => ?_)
  ·obtain ⟨e,he⟩:∃ e,des[i]? = some e:=⟨des[i],Array.getElem?_eq_getElem hi⟩
   refine wpAny_bind (wpAny_dictEntries ho1 hdd ?_)
   rw[he]
   dsimp only
   refine wpAny_bind (wpAny_holding (wpAny_bind (wpAny_mono (hb e he) (fun b s2 hq=>wpAny_pure ?_) fun ι ι x=>x)))
   refine wpAny_bind (wpAny_dictEpoch hq.1 hdd ?_)
   simp only[bne_self_eq_false,Bool.false_eq_true,if_false]
   exact wpAny_pure hq.2
  ·exact wpAny_pure (h h' s.toks (fun b o hb e=>hs.extBut b o hb (hs0.extBut b o hb e)) hL)
 | true =>
  simp only[hbt,if_true]
  have hm:s.heap.DictAt (PySem.strKind prog w) d kvs dep:=⟨od,des,hod,hex,hdd,hK,hP,hnd⟩
  have hds:d<s.heap.objs.size:=Heap.lt_size hod
  have has:a<s.heap.objs.size:=let ⟨_,_,_,_,ho,_⟩:=hX.1.set; Heap.lt_size ho
  refine wpAny_bind (wpAny_pyIter_dict hsys hm ?_)
  refine wpAny_bind (wpAny_runValue ?_)
  refine upd_loop (d:=d) (a:=a) (kvs:=kvs) (ks:=[k0]) (ep:=dep) (h₁:=s.heap) hh (Nat.ne_of_gt has) hda (Nat.ne_of_lt hds) (by simp; trivial) (fun h' tk hk hL => ?_) kvs.length 0 _ s.toks (by trivial) ⟨_,Heap.get?_push_size _ rfl,rfl,rfl⟩ (hm.push _) (fun b o ι ι e=>Heap.get?_push_of_some _ e) ?_
  ·exact wpAny_pure (h h' tk (fun b o hb e=>hk b o hb (Nat.ne_of_lt (Heap.lt_size e)) e) hL)
  ·have e0:addAll [k0] ((kvs.map (·.1)).take 0)=[k0]:=by simp [addAll]
   rw[e0]
   obtain ⟨⟨⟨o,es,ep,t,ho,r⟩,o',es',ep',t',ho',r'⟩,nd⟩:=hX
   exact ⟨⟨⟨o,es,ep,t,Heap.get?_push_of_some _ ho,r⟩,o',es',ep',t',Heap.get?_push_of_some _ ho',r'⟩,nd⟩
theorem s_main{env:Env}{q:Str}{h₀:Heap}{Q:Bool→Shared→Prop}(hc:s.heap.CodeRec env.code q)(h:∀ b,Q b s):wpAny (model prog w) A (inMainModule env) Q E s:=by
 obtain ⟨c,o,vs,t,e,ho,hd,_⟩:=hc
 unfold inMainModule
 try dsimp only
 rw[e]
 split
 ·exact wpAny_pure (h _)
 ·refine wpAny_bind (wpAny_fieldsOf ho hd ?_)
  split
  ·exact wpAny_bind (wpAny_askSetting (wpAny_pure (h _)))
  ·exact wpAny_pure (h _)
noncomputable abbrev led0(prog:Program)(w:World):Bool := !(model prog w).w.params.followText "set-order"
noncomputable abbrev set0(prog:Program)(w:World):Obj:={ cls := .type "set",dict:=none,data := .set #[] 0 (.fresh 0 0 (led0 prog w)) }
theorem code_set_newL{Q₁:Value→Shared→Prop}(h:Q₁ (.ref s.heap.objs.size) { s with heap:=s.heap.push (set0 prog w) }):
  codeAny (model prog w) A (.call (.builtin "set.__new__") ⟨[.type "set"],[]⟩) (wants Q₁ E) s:=by
 refine codeAny_of_tree ?_
 show wpAny _ A.in1 (do checkBuiltinCall "set.__new__" ⟨[.type "set"],[]⟩; again (.builtin "set.__new__" ⟨[.type "set"],[]⟩)) _ _ s
 refine wpAny_bind (wpAny_of_eq F.newCall_set_0 (wpAny_pure ⟨plainId_quiet F.plain_set_new _,codeAny_builtin F.entry_set_new ?_⟩))
 rw[Around.under_plainId F.plain_set_new _]
 unfold Builtin.«set.__new__» Builtin.Frozenset.newClass
 have hsub:=sub_set_self
 obtain ⟨hp,g,d,tk,os⟩:=s
 dsimp only
 wp_walk
 refine wpAny_askSetting (wpAny_pure ?_)
 dsimp only
 simp only[newObj]
 refine wpAny_bind (wpAny_alloc (wpAny_pure ?_))
 exact wpAny_pure h
set_option maxHeartbeats 1000000 in
set_option maxRecDepth 100000 in
theorem c_set_0{Q:Value→Shared→Prop}(h:Q (.ref s.heap.objs.size) { s with heap:=s.heap.push (set0 prog w) }):wpAny (model prog w) A (call (.type "set") []) Q E s:=by
 obtain ⟨c,tl,hmro⟩:=F.called_set.mro
 have hmade:=F.called_set.made
 have hsub:=F.called_set.sub
 refine wpAny_call (codeAny_of_tree ?_)
 show wpAny _ _ (callAny (.type "set") _) _ _ _
 refine wpAny_pure ⟨Code.quiet_builtin _ (by decide+kernel),codeAny_builtin F.entry_type_call ?_⟩
 rw[Around.under_plain (weight_type_call_type "set" [] []) rfl]
 have h1:=F.called_set.notType
 have h2:=F.called_set.canCreate
 have hct:=F.typeCall_set_0
 have h':∀ led,led=led0 prog w→Q (.ref s.heap.objs.size) { s with heap:=s.heap.push { cls := .type "set",dict:=none,data := .set #[] 0 (.fresh 0 0 led) } }:=fun led e=>by rw[e]; exact h
 clear h
 obtain ⟨led,hL⟩:∃ led,led=led0 prog w:=⟨_,rfl⟩
 replace h':=h' led hL
 repeat (any_goals (first | assumption | wp_step))
 refine codeAny_mono (code_set_newL (E:=E) (Q₁:=fun obj s₁=>obj = .ref s.heap.objs.size∧s₁={ s with heap:=s.heap.push { cls := .type "set",dict:=none,data := .set #[] 0 (.fresh 0 0 led) } }) ⟨rfl,by rw[hL]⟩) fun r s₁ hr => ?_
 cases r with
 | error e=>exact hr
 | ok fl =>
  cases fl with
  | ret obj =>
   obtain ⟨rfl,rfl⟩:=hr
   have hS:(s.heap.push { cls := .type "set",dict:=none,data := .set #[] 0 (.fresh 0 0 led) }).get? s.heap.objs.size=some { cls := .type "set",dict:=none,data := .set #[] 0 (.fresh 0 0 led) }:=Heap.get?_push_size _ rfl
   have hT:Shared.TypeIs { s with heap:=s.heap.push { cls := .type "set",dict:=none,data := .set #[] 0 (.fresh 0 0 led) } } (.ref s.heap.objs.size) "set":=⟨_,hS,rfl⟩
   have hli:=F.called_set.init.lookup
   have hbi:=F.called_set.init.bind (.ref s.heap.objs.size)
   repeat (any_goals (first | assumption | wp_step))
   refine codeAny_mono (codeAny_call_builtin (R:=wants (fun r s₂=>r = .none∧Q (.ref s.heap.objs.size) s₂) E) F.called_set.init.plain F.entry_set_init (check_set_init hT ?_)) fun r₂ s₂ hr₂ => ?_
   ·unfold Builtin.«set.__init__» noKeywords
    wp_walk
    exact ⟨rfl,h'⟩
   ·cases r₂ with
    | error e=>exact hr₂
    | ok fl₂ =>
     cases fl₂ with
     | ret r =>
      obtain ⟨rfl,hq⟩:=hr₂
      repeat (any_goals (first | assumption | wp_step))
     | _=>exact hr₂.elim
  | _=>exact hr.elim
theorem set_led:(!(model prog w).w.params.followText "set-order")=true∨byText w:=by
 cases hb:w.params.followText "set-order" with
 | true=>exact .inr hb
 | false=>left; show (!w.params.followText "set-order")=true; rw[hb]; rfl
theorem SetL.fresh'{h:Heap}{a:Addr}{led:Bool}(hl:led=true∨byText w)(e:h.get? a=some { cls := .type "set",dict:=none,data := .set #[] 0 (.fresh 0 0 led) }):SetL prog w h a [] :=
 ⟨⟨⟨_,#[],0,_,e,⟨rfl,rfl,rfl⟩,rfl,fun e he=>by simp at he,fun k=>by simp,by decide,by rfl,rfl⟩,_,_,_,_,e,rfl,hl,.inl rfl,fun ι=>⟨rfl,Nat.le_refl 7⟩⟩,.nil⟩
theorem SetL.fresh{h:Heap}{a:Addr}(e:h.get? a=some (set0 prog w)):SetL prog w h a [] :=
 SetL.fresh' set_led e
theorem s_display{b:Bool}{t1 t2:Sem Value}{k0:Str}(hh:A.handled=none)
  (h1:∀ {s':Shared} {Q:Value→Shared→Prop},(∀ b o,s.heap.get? b=some o→s'.heap.get? b=some o)→s'.os=s.os→s'.gens=s.gens→(∀ u,Q (.str k0 u) s')→wpAny (model prog w) A t1 Q E s')
  (h2:∀ {s':Shared} {Q:Value→Shared→Prop},(∀ b o,s.heap.get? b=some o→s'.heap.get? b=some o)→s'.os=s.os→s'.gens=s.gens→Q (.ref d) s'→wpAny (model prog w) A t2 Q E s')
  (hD:s.heap.DictOf (PySem.strKind prog w) d kvs) (hsys:(d==sysModules)=false) (hn:kvs.length≤4) {Q:Value→Shared→Prop}
  (h:∀ h' tk,(∀ b o,s.heap.get? b=some o→h'.get? b=some o)→SetL prog w h' s.heap.objs.size (addAll [k0] (kvs.map (·.1)))→Q (.ref s.heap.objs.size) { s with heap:=h',toks:=tk }) :
  wpAny (model prog w) A (setDisplay .oneByOne b [(false,t1),(true,t2)]) Q E s:=by
 have hds:d<s.heap.objs.size:=let ⟨_,_,_,ho,_⟩:=hD; Heap.lt_size ho
 unfold setDisplay
 simp only[show (DisplayRoad.oneByOne==DisplayRoad.constants)=false from rfl,show (DisplayRoad.oneByOne==DisplayRoad.unsure)=false from rfl,Bool.false_eq_true,if_false]
 refine wpAny_bind (newSetX fun h' hk hX hz => ?_)
 dsimp only
 have en:(if ([(false,t1),(true,t2)]:List (Bool×Sem Value)).length>30 then 0 else (([(false,t1),(true,t2)]:List (Bool×Sem Value)).findIdx? (·.1)).getD ([(false,t1),(true,t2)]:List (Bool×Sem Value)).length)=1:=by simp [List.findIdx?_cons]
 rw[en]
 simp only[List.take_succ_cons,List.take_zero,List.map_cons,List.map_nil,List.drop_succ_cons,List.drop_zero]
 refine wpAny_bind (wpAny_holding ?_)
 refine wpAny_bind ?_
 show wpAny _ _ (do let v ← t1; return v::(← holding [v] (evalAll []))) _ _ _
 refine wpAny_bind (h1 hk rfl rfl fun u=>(wpAny_bind (wpAny_holding (wpAny_pure (wpAny_pure ?_)))))
 refine wpAny_bind (wpAny_holding ?_)
 rw[List.forIn_cons]
 refine wpAny_bind (wpAny_bind (wpAny_bind (s_setAdd (s:={ s with heap:=h' }) (ks:=[]) ⟨hX.congr (fun ι=>rfl) rfl,.nil⟩ (by decide) fun b h2' hs2 hL=>wpAny_pure ?_)))
 dsimp only
 rw[List.forIn_nil]
 refine wpAny_pure (wpAny_pure ?_)
 rw[List.forIn_cons]
 have hk2:∀ b o,s.heap.get? b=some o→h2'.get? b=some o:=fun b o e=>hs2.extBut b o (Nat.ne_of_lt (Heap.lt_size e)) (hk b o e)
 refine wpAny_bind (wpAny_bind (wpAny_bind (m:=t2) (h2 (s':={ s with heap:=h2',toks:=s.toks+1 }) hk2 rfl rfl ?_)))
 simp only[if_true]
 have hD2:h2'.DictOf (PySem.strKind prog w) d kvs:=let ⟨o,es,ep,ho,r⟩:=hD; ⟨o,es,ep,hk2 _ _ ho,r⟩
 refine wpAny_bind (wpAny_holding (s_star (s:={ s with heap:=h2',toks:=s.toks+1 }) hh (k0:=k0) hL hD2 hsys (Nat.ne_of_lt hds) hn fun h3 tk hk3 hL3=>wpAny_pure ?_))
 dsimp only
 rw[List.forIn_nil]
 exact wpAny_pure (wpAny_pure (wpAny_pure (h h3 tk (fun b o e=>hk3 b o (Nat.ne_of_lt (Heap.lt_size e)) (hk2 b o e)) hL3)))
end
end
structure Pm where
 id:String
 obj:Bool
noncomputable def Pm.lAppend:Pm:=⟨"list.append",true⟩
noncomputable def Pm.lPop:Pm:=⟨"list.pop",false⟩
noncomputable def Pm.lSort:Pm:=⟨"list.sort",false⟩
noncomputable def Pm.dItems:Pm:=⟨"dict.items",false⟩
noncomputable def Pm.dGet:Pm:=⟨"dict.get",false⟩
noncomputable def Pm.sAdd:Pm:=⟨"set.add",false⟩
noncomputable def Pm.tJoin:Pm:=⟨"str.join",true⟩
noncomputable def Pm.tStrip:Pm:=⟨"str.strip",false⟩
noncomputable def Pm.tSplit:Pm:=⟨"str.split",false⟩
noncomputable def Pm.tRsplit:Pm:=⟨"str.rsplit",false⟩
noncomputable def Pm.tStarts:Pm:=⟨"str.startswith",false⟩
noncomputable def Pm.tEnds:Pm:=⟨"str.endswith",false⟩
noncomputable def Pm.tFind:Pm:=⟨"str.find",false⟩
noncomputable def Pm.tReplace:Pm:=⟨"str.replace",false⟩
structure Bf where
 ty:Bool
 nm:String
 ok:handedIn (bif ty then .type nm else .builtin nm)=true
noncomputable def Bf.val(b:Bf):Value:=bif b.ty then .type b.nm else .builtin b.nm
noncomputable def Bf.len:Bf:=⟨false,"len",by decide+kernel⟩
noncomputable def Bf.sum:Bf:=⟨false,"sum",by decide+kernel⟩
noncomputable def Bf.sorted:Bf:=⟨false,"sorted",by decide+kernel⟩
noncomputable def Bf.divmod:Bf:=⟨false,"divmod",by decide+kernel⟩
noncomputable def Bf.chr:Bf:=⟨false,"chr",by decide+kernel⟩
noncomputable def Bf.set:Bf:=⟨true,"set",by decide+kernel⟩
noncomputable def Bf.list:Bf:=⟨true,"list",by decide+kernel⟩
noncomputable def Bf.dict:Bf:=⟨true,"dict",by decide+kernel⟩
noncomputable def Bf.range:Bf:=⟨true,"range",by decide+kernel⟩
inductive V where
 | none
 | bool (b:Bool)
 | int (i:Int)
 | str (s:Str)
 | tup (xs:List V)
 | ref (i:Nat)
 | fn (a:Addr)
 | bm (p:Pm) (x:V)
 | bf (b:Bf)
 | mt (f:Addr) (x:V)
 | view (i:Nat)
inductive AObj where
 | list (xs:List V)
 | dict (kvs:List (Str×V))
 | ns (kvs:List (Str×V))
 | set (ks:List Str)
 | inst (C:Addr) (d:Nat)
 | tab (P:Addr) (q:Str)
structure Hp where
 f:Nat→AObj
 n:Nat
noncomputable def Hp.alloc(H:Hp)(o:AObj):Hp:=⟨fun i=>if i=H.n then o else H.f i,H.n+1⟩
noncomputable def Hp.put(H:Hp)(i:Nat)(o:AObj):Hp:=⟨fun j=>if j=i then o else H.f j,H.n⟩
mutual
inductive Rep (n:Nat) (ρ:Nat→Addr) (h:Heap):Value→V→Prop
 | none:Rep n ρ h .none .none
 | bool (b:Bool):Rep n ρ h (.bool b) (.bool b)
 | int (i:Int) (t:Tok):Rep n ρ h (.int i t) (.int i)
 | str (s:Str) (t:Tok):Rep n ρ h (.str s t) (.str s)
 | ref (i:Nat):i<n→Rep n ρ h (.ref (ρ i)) (.ref i)
 | fn (a:Addr):Rep n ρ h (.ref a) (.fn a)
 | tup {a:Addr} {vs:Array Value} {k:Nat} {xs:List V}:h.get? a=some { cls := .type "tuple",data := .seq vs k }→RepL n ρ h vs.toList xs→Rep n ρ h (.ref a) (.tup xs)
 | bm {a:Addr} {p:Pm} {v:Value} {x:V}:p.obj=true→h.get? a=some { cls := .type "builtin_function_or_method",data := .fields #[.builtin p.id,v] }→Rep n ρ h v x→Rep n ρ h (.ref a) (.bm p x)
 | bf (b:Bf):Rep n ρ h b.val (.bf b)
 | mt {a f:Addr} {v:Value} {x:V}:h.get? a=some { cls := .type "method",data := .fields #[.ref f,v] }→Rep n ρ h v x→Rep n ρ h (.ref a) (.mt f x)
 | view {a:Addr} {i:Nat}:i<n→h.get? a=some { cls := .type "dict_items",data := .fields #[.ref (ρ i)] }→Rep n ρ h (.ref a) (.view i)
inductive RepL (n:Nat) (ρ:Nat→Addr) (h:Heap):List Value→List V→Prop
 | nil:RepL n ρ h [] []
 | cons {v:Value} {x:V} {vs:List Value} {xs:List V}:Rep n ρ h v x→RepL n ρ h vs xs→RepL n ρ h (v::vs) (x::xs)
end
noncomputable def CodeC(h:Heap)(cv:Value)(q:Str):Prop:=Ex4 fun c o vs t=>cv = .ref c∧h.get? c=some o∧o.cls = .type "code"∧o.data = .fields vs∧vs[1]? = some (.str q t)
noncomputable def RepO(prog:Program)(w:World)(n:Nat)(ρ:Nat→Addr)(h:Heap)(a:Addr):AObj→Prop
 | .list xs=>Ex2 fun vs k=>h.get? a=some { cls := .type "list",data := .seq vs k }∧RepL n ρ h vs.toList xs
 | .dict kvs=>∃ ps:List (Str×Value),h.DictOf (strKind prog w) a ps∧ps.map (·.1)=kvs.map (·.1)∧RepL n ρ h (ps.map (·.2)) (kvs.map (·.2))
 | .ns kvs=>Ex2 fun es k=>h.get? a=some { cls := .type "dict",data := .dict es k }∧StrKeys es∧es.size≤kvs.length∧(∀ x v,kvs.lookup x=some v→∃ u,nsFind es x=some u∧Rep n ρ h u v)∧∀ x,kvs.lookup x=none→nsFind es x=none
 | .set ks=>SetL prog w h a ks
 | .inst C d=>d<n∧h.get? a=some { cls := .ref C,dict:=some (ρ d),data := .plain }
 | .tab P q=>a=P∧∃ ps,h.get? P=some (tabObj ps)∧TriplesOk ps.toList∧∀ pos cv,codeAmong pos ps.toList=some cv→CodeC h cv q
structure Cx where
 prog:Program
 w:World
 g:Heap
 os:OsState
 K:Frag
 lam:List (Str×NameKind)→Option (Addr×Addr×Str)
structure Inv (cx:Cx) (ρ:Nat→Addr) (H:Hp) (s:Shared):Prop where
 keep:∀ b o,cx.g.get? b=some o→s.heap.get? b=some o
 os:s.os=cx.os
 bare:AllBare s.gens
 objs:∀ i,i<H.n→RepO cx.prog cx.w H.n ρ s.heap (ρ i) (H.f i)
 inj:∀ i j,i<H.n→j<H.n→ρ i=ρ j→i=j
 low:∀ i,i<H.n→cx.g.get? (ρ i)=none
 st:∃ o,cx.g.get? cStatics=some o
 nsys:∀ i,i<H.n→ρ i≠sysModules
theorem size_ne{h:Heap}{o:Obj}(e:h.get? cStatics=some o):h.objs.size≠sysModules:=fun q=>by
 have:=Heap.lt_size e
 rw[q] at this
 exact absurd this (by decide)
theorem Inv.neS{cx ρ H s}(I:Inv cx ρ H s):s.heap.objs.size≠sysModules:=let ⟨_,e⟩:=I.st; size_ne (I.keep _ _ e)
theorem Inv.neX{cx ρ H s}(I:Inv cx ρ H s){h:Heap}(hk:∀ a o,s.heap.get? a=some o→h.get? a=some o):h.objs.size≠sysModules:=let ⟨_,e⟩:=I.st; size_ne (hk _ _ (I.keep _ _ e))
structure Stp (cx:Cx) (W:Addr→Prop) (ρ:Nat→Addr) (H:Hp) (s:Shared) (ρ':Nat→Addr) (H':Hp) (s':Shared):Prop where
 inv:Inv cx ρ' H' s'
 le:H.n≤H'.n
 agr:∀ i,i<H.n→ρ' i=ρ i
 fresh:∀ i,H.n≤i→i<H'.n→s.heap.get? (ρ' i)=none
 ext:∀ a o,s.heap.get? a=some o→(∀ i,i<H.n→ρ i≠a)→¬ W a→s'.heap.get? a=some o
 gx:∀ (g:Nat) x,s.gens[g]? = some x→s'.gens[g]? = some x
noncomputable abbrev NoW:Addr→Prop:=fun ι=>False
noncomputable def nfB:Value→Bool
 | .type t => !(["tuple","builtin_function_or_method","method","dict_items","code"].contains t)
 | _=>true
theorem nfL:nfB (.type "list")=true:=by decide+kernel
theorem nfD:nfB (.type "dict")=true:=by decide+kernel
theorem nfS:nfB (.type "set")=true:=by decide+kernel
theorem nfT:nfB (.type "tuple")=false:=by decide+kernel
theorem nfF:nfB (.type "builtin_function_or_method")=false:=by decide+kernel
theorem nfM:nfB (.type "method")=false:=by decide+kernel
theorem nfV:nfB (.type "dict_items")=false:=by decide+kernel
theorem nfC:nfB (.type "code")=false:=by decide+kernel
inductive SomeO (h:Heap) (a:Addr):Prop | mk (ob:Obj) (e:h.get? a = .some ob) (f:nfB ob.cls=true):SomeO h a
theorem RepO.some{p w n ρ h a}{o:AObj}(x:RepO p w n ρ h a o):SomeO h a:=by
 cases o with
 | list xs=>obtain ⟨vs,k,e,_⟩:=x; exact ⟨_,e,nfL⟩
 | dict xs=>obtain ⟨ps,⟨o,es,k,e,hc,_⟩,_⟩:=x; exact ⟨_,e,hc.1.symm▸nfD⟩
 | ns xs=>obtain ⟨es,k,e,_⟩:=x; exact ⟨_,e,nfD⟩
 | set xs=>obtain ⟨⟨⟨o,es,k,t,e,hc,_⟩,_⟩,_⟩:=x; exact ⟨_,e,hc.1.symm▸nfS⟩
 | inst C d=>exact ⟨_,x.2,rfl⟩
 | tab P q=>obtain ⟨rfl,ps,e,_⟩:=x; exact ⟨_,e,nfD⟩
theorem Inv.lt{cx ρ H s}(I:Inv cx ρ H s){i:Nat}(hi:i<H.n):ρ i<s.heap.objs.size :=
 let ⟨_,e,_⟩:=(I.objs i hi).some; Heap.lt_size e
noncomputable def Fz(o:Obj):Prop:=nfB o.cls=false∧((Ex2 fun vs k=>o.data = .seq vs k)∨∃ vs,o.data = .fields vs)
theorem Inv.notMut{cx ρ H s}(I:Inv cx ρ H s){a:Addr}{ob:Obj}(e:s.heap.get? a=some ob)
  (hc:Fz ob):∀ i,i<H.n→ρ i≠a:=by
 rintro i hi rfl
 obtain ⟨ob',e',h⟩:=(I.objs i hi).some
 rw[e] at e'; first | contradiction | cases e'
 rw[hc.1] at h; contradiction
structure Kp (n:Nat) (ρ:Nat→Addr) (h:Heap) (n':Nat) (ρ':Nat→Addr) (h':Heap):Prop where
 le:n≤n'
 agr:∀ i,i<n→ρ' i=ρ i
 fro:∀ a o,h.get? a=some o→Fz o→h'.get? a=some o
theorem Rep.mono{n ρ h n' ρ' h'}(K:Kp n ρ h n' ρ' h'){v x}(r:Rep n ρ h v x):Rep n' ρ' h' v x :=
 Rep.rec (motive_1:=fun v x ι=>Rep n' ρ' h' v x) (motive_2:=fun vs xs ι=>RepL n' ρ' h' vs xs) .none .bool .int .str
  (fun i hi=>K.agr i hi▸Rep.ref (n:=n') (ρ:=ρ') (h:=h') i (Nat.lt_of_lt_of_le hi K.le)) .fn
  (fun e ι r => .tup (K.fro _ _ e ⟨nfT,.inl ⟨_,_,rfl⟩⟩) r)
  (fun hp e ι r => .bm hp (K.fro _ _ e ⟨nfF,.inr ⟨_,rfl⟩⟩) r) .bf
  (fun e ι r => .mt (K.fro _ _ e ⟨nfM,.inr ⟨_,rfl⟩⟩) r)
  (fun hi e => .view (Nat.lt_of_lt_of_le hi K.le) (by rw[K.agr _ hi]; exact K.fro _ _ e ⟨nfV,.inr ⟨_,rfl⟩⟩))
  .nil (fun ι ι a b => .cons a b) r
theorem RepL.ind{n ρ h}{m:∀ vs xs,RepL n ρ h vs xs→Prop}(h0:m [] [] .nil)(h1:∀ {v x vs xs} (a:Rep n ρ h v x) (b:RepL n ρ h vs xs),m vs xs b→m (v::vs) (x::xs) (.cons a b)){vs xs}(r:RepL n ρ h vs xs):m vs xs r :=
 RepL.rec (motive_1:=fun ι ι ι=>True) (motive_2:=m) trivial (fun ι=>trivial) (fun ι ι=>trivial) (fun ι ι=>trivial) (fun ι ι=>trivial) (fun ι=>trivial) (fun ι ι ι=>trivial) (fun ι ι ι ι=>trivial) (fun ι=>trivial) (fun ι ι ι=>trivial) (fun ι ι=>trivial) h0 (fun a b ι ih=>h1 a b ih) r
theorem RepL.mono{n ρ h n' ρ' h'}(K:Kp n ρ h n' ρ' h'){vs xs}(r:RepL n ρ h vs xs):RepL n' ρ' h' vs xs :=
 RepL.ind (m:=fun vs xs ι=>RepL n' ρ' h' vs xs) .nil (fun a ι ih => .cons (a.mono K) ih) r
theorem RepO.mono{p w n ρ h n' ρ' h'}(K:Kp n ρ h n' ρ' h'){a:Addr}{o:AObj}(r:RepO p w n ρ h a o)(e:h'.get? a=h.get? a):RepO p w n' ρ' h' a o:=by
 cases o with
 | list xs=>obtain ⟨vs,k,q,l⟩:=r; exact ⟨vs,k,e.trans q,l.mono K⟩
 | dict xs=>obtain ⟨ps,⟨o,es,k,q,hr⟩,hn,l⟩:=r; exact ⟨ps,⟨o,es,k,e.trans q,hr⟩,hn,l.mono K⟩
 | ns xs =>
  obtain ⟨es,k,q,h0,h0',h1,h2⟩:=r
  exact ⟨es,k,e.trans q,h0,h0',fun x v z=>let ⟨u,a,b⟩:=h1 x v z; ⟨u,a,b.mono K⟩,h2⟩
 | set xs=>obtain ⟨⟨⟨o,es,k,t,q,hc⟩,o',es',k',t',q',hc'⟩,l⟩:=r; exact ⟨⟨⟨o,es,k,t,e.trans q,hc⟩,o',es',k',t',e.trans q',hc'⟩,l⟩
 | inst C d=>exact ⟨Nat.lt_of_lt_of_le r.1 K.le,by rw[K.agr _ r.1]; exact e.trans r.2⟩
 | tab P q =>
  obtain ⟨rfl,ps,e1,e2,e3⟩:=r
  exact ⟨rfl,ps,e.trans e1,e2,fun pos cv z=>let ⟨c,o,vs,t,a1,a2,a3,a4⟩:=e3 pos cv z; ⟨c,o,vs,t,a1,K.fro _ _ a2 ⟨a3▸nfC,.inr ⟨_,a4.1⟩⟩,a3,a4⟩⟩
theorem Stp.kp{cx W ρ H s ρ' H' s'}(I:Inv cx ρ H s)(S:Stp cx W ρ H s ρ' H' s')(hW:∀ a o,s.heap.get? a=some o→Fz o→¬ W a):
  Kp H.n ρ s.heap H'.n ρ' s'.heap:=⟨S.le,S.agr,fun a o e hc=>S.ext a o e (I.notMut e hc) (hW a o e hc)⟩
theorem Stp.refl{cx ρ H s}(W)(I:Inv cx ρ H s):Stp cx W ρ H s ρ H s :=
 ⟨I,Nat.le_refl _,fun ι ι=>rfl,fun i h1 h2=>absurd h2 (Nat.not_lt.mpr h1),fun ι ι e ι ι=>e,fun ι ι e=>e⟩
theorem Stp.old{cx W ρ H s ρ' H' s'}(S:Stp cx W ρ H s ρ' H' s'){a:Addr}{o:Obj}(e:s.heap.get? a=some o)(hm:∀ i,i<H.n→ρ i≠a):∀ i,i<H'.n→ρ' i≠a:=fun i hi q=>by
 by_cases h:i<H.n
 ·rw[S.agr i h] at q; exact hm i h q
 ·have:=S.fresh i (Nat.le_of_not_lt h) hi
  rw[q,e] at this; first | contradiction | cases this
theorem Stp.transW{cx W ρ H s ρ' H' s' ρ'' H'' s''}(S:Stp cx W ρ H s ρ' H' s')(T:Stp cx W ρ' H' s' ρ'' H'' s'')(hW:∀ i,H'.n≤i→i<H''.n→¬ W (ρ'' i)):Stp cx W ρ H s ρ'' H'' s'' :=
 ⟨T.inv,Nat.le_trans S.le T.le,fun i hi=>(T.agr i (Nat.lt_of_lt_of_le hi S.le)).trans (S.agr i hi),
 fun i h1 h2=>by
  by_cases h:i<H'.n
  ·rw[T.agr i h]; exact S.fresh i h1 h
  ·have hf:=T.fresh i (Nat.le_of_not_lt h) h2
   cases e:s.heap.get? (ρ'' i) with
   | none=>rfl
   | some o =>
    by_cases hm:∀ j,j<H.n→ρ j≠ρ'' i
    ·rw[S.ext _ o e hm (hW i (Nat.le_of_not_lt h) h2)] at hf; first | contradiction | cases hf
    ·exfalso
     refine hm fun j hj q => ?_
     have h3:ρ'' j=ρ'' i:=by rw[T.agr j (Nat.lt_of_lt_of_le hj S.le),S.agr j hj,q]
     have:=T.inv.inj j i (Nat.lt_of_lt_of_le (Nat.lt_of_lt_of_le hj S.le) T.le) h2 h3
     trivial,
 fun a o e hm hw=>T.ext a o (S.ext a o e hm hw) (S.old e hm) hw,fun g x e=>T.gx g x (S.gx g x e)⟩
theorem Stp.trans{cx ρ H s ρ' H' s' ρ'' H'' s''}(S:Stp cx NoW ρ H s ρ' H' s')(T:Stp cx NoW ρ' H' s' ρ'' H'' s''):Stp cx NoW ρ H s ρ'' H'' s'':=S.transW T fun ι ι ι x=>x
theorem Stp.weaken{cx W W' ρ H s ρ' H' s'}(S:Stp cx W ρ H s ρ' H' s')(h:∀ a,W a→W' a):Stp cx W' ρ H s ρ' H' s' :=
 ⟨S.inv,S.le,S.agr,S.fresh,fun a o e hm hw=>S.ext a o e hm fun x=>hw (h a x),S.gx⟩
theorem Stp.grown{cx ρ H s s'}(W)(I:Inv cx ρ H s)(hk:∀ a o,s.heap.get? a=some o→s'.heap.get? a=some o)
  (hos:s'.os=s.os) (hb:s'.gens=s.gens):Stp cx W ρ H s ρ H s':=by
 have K:Kp H.n ρ s.heap H.n ρ s'.heap:=⟨Nat.le_refl _,fun ι ι=>rfl,fun a o e ι=>hk a o e⟩
 refine ⟨⟨fun b o e=>hk b o (I.keep b o e),hos.trans I.os,hb▸I.bare,fun i hi => ?_,I.inj,I.low,I.st,I.nsys⟩,Nat.le_refl _,fun ι ι=>rfl,fun i h1 h2=>absurd h2 (Nat.not_lt.mpr h1),fun a o e ι ι=>hk a o e,fun ι ι e=>hb▸e⟩
 obtain ⟨ob,e,_⟩:=(I.objs i hi).some
 exact (I.objs i hi).mono K ((hk _ _ e).trans e.symm)
theorem Stp.put{cx ρ H s s'}(W)(I:Inv cx ρ H s){i:Nat}{o:AObj}(hi:i<H.n)(hs:Heap.SameBut (ρ i) s.heap s'.heap)
  (ho:RepO cx.prog cx.w H.n ρ s'.heap (ρ i) o) (hos:s'.os=s.os) (hb:s'.gens=s.gens):Stp cx W ρ H s ρ (H.put i o) s':=by
 have K:Kp H.n ρ s.heap H.n ρ s'.heap:=⟨Nat.le_refl _,fun ι ι=>rfl,fun a o e hc=>hs.extBut a o (fun q=>I.notMut e hc i hi q.symm) e⟩
 refine ⟨⟨fun b o e=>hs.extBut b o (fun q => ?_) (I.keep b o e),hos.trans I.os,hb▸I.bare,fun j hj => ?_,I.inj,I.low,I.st,I.nsys⟩,Nat.le_refl _,fun ι ι=>rfl,fun i h1 h2=>absurd h2 (Nat.not_lt.mpr h1),fun a o e hm ι=>hs.extBut a o (fun q=>hm i hi q.symm) e,fun ι ι e=>hb▸e⟩
 ·subst q
  rw[I.low i hi] at e; first | contradiction | cases e
 ·show RepO _ _ H.n ρ _ (ρ j) (if j=i then o else H.f j)
  by_cases h:j=i
  ·subst h; rw[if_pos rfl]; exact ho
  ·rw[if_neg h]
   exact (I.objs j hj).mono K (hs.2 _ fun q=>h (I.inj j i hj hi q))
theorem Stp.new{cx ρ H s s'}(W)(I:Inv cx ρ H s){a:Addr}{o:AObj}(ha:s.heap.get? a=none)(hsy:a≠sysModules)(hk:∀ a o,s.heap.get? a=some o→s'.heap.get? a=some o)
  (ho:RepO cx.prog cx.w (H.n+1) (fun j=>if j=H.n then a else ρ j) s'.heap a o) (hos:s'.os=s.os) (hb:s'.gens=s.gens):Stp cx W ρ H s (fun j=>if j=H.n then a else ρ j) (H.alloc o) s':=by
 have agr:∀ i,i<H.n→(fun j=>if j=H.n then a else ρ j) i=ρ i:=fun i hi=>if_neg (Nat.ne_of_lt hi)
 have K:Kp H.n ρ s.heap (H.n+1) (fun j=>if j=H.n then a else ρ j) s'.heap:=⟨Nat.le_succ _,agr,fun a o e ι=>hk a o e⟩
 have low:∀ i,i<H.n→ρ i≠a:=fun i hi q=>by
  obtain ⟨ob,e,_⟩:=(I.objs i hi).some
  rw[q,ha] at e; first | contradiction | cases e
 have hg:cx.g.get? a=none:=by
  cases e:cx.g.get? a with
  | none=>rfl
  | some o=>rw[I.keep a o e] at ha; first | contradiction | cases ha
 have ns:∀ i,i<H.n+1→(if i=H.n then a else ρ i)≠sysModules:=fun i hi=>by
  by_cases h:i=H.n
  ·rw[if_pos h]; exact hsy
  ·rw[if_neg h]; exact I.nsys i (Nat.lt_of_le_of_ne (Nat.le_of_lt_succ hi) h)
 refine ⟨⟨fun b o e=>hk b o (I.keep b o e),hos.trans I.os,hb▸I.bare,fun i hi => ?_,fun i j hi hj q => ?_,fun i hi => ?_,I.st,ns⟩,Nat.le_succ _,agr,fun i h1 h2 => ?_,fun a o e ι ι=>hk a o e,fun ι ι e=>hb▸e⟩
 ·show RepO _ _ (H.n+1) _ _ (if i=H.n then a else ρ i) (if i=H.n then o else H.f i)
  by_cases h:i=H.n
  ·rw[if_pos h,if_pos h]; exact ho
  ·rw[if_neg h,if_neg h]
   have hi':i<H.n:=Nat.lt_of_le_of_ne (Nat.le_of_lt_succ hi) h
   obtain ⟨ob,e,_⟩:=(I.objs i hi').some
   exact (I.objs i hi').mono K ((hk _ _ e).trans e.symm)
 ·replace q:(if i=H.n then a else ρ i)=(if j=H.n then a else ρ j):=q
  by_cases h:i=H.n <;> by_cases h':j=H.n
  ·rw[h,h']
  ·rw[if_pos h,if_neg h'] at q
   exact absurd q.symm (low j (Nat.lt_of_le_of_ne (Nat.le_of_lt_succ hj) h'))
  ·rw[if_neg h,if_pos h'] at q
   exact absurd q (low i (Nat.lt_of_le_of_ne (Nat.le_of_lt_succ hi) h))
  ·rw[if_neg h,if_neg h'] at q
   exact I.inj i j (Nat.lt_of_le_of_ne (Nat.le_of_lt_succ hi) h) (Nat.lt_of_le_of_ne (Nat.le_of_lt_succ hj) h') q
 ·show cx.g.get? (if i=H.n then a else ρ i)=none
  by_cases h:i=H.n
  ·rw[if_pos h]; exact hg
  ·rw[if_neg h]; exact I.low i (Nat.lt_of_le_of_ne (Nat.le_of_lt_succ hi) h)
 ·have:i=H.n:=Nat.le_antisymm (Nat.le_of_lt_succ h2) h1
  show s.heap.get? (if i=H.n then a else ρ i)=none
  rw[if_pos this]; exact ha
theorem get?_size(h:Heap):h.get? h.objs.size=none:=by
 cases e:h.get? h.objs.size with
 | none=>rfl
 | some o=>exact absurd (Heap.lt_size e) (Nat.lt_irrefl _)
noncomputable abbrev HasSys(cx:Cx):Prop:=∃ o,cx.g.get? cStatics=some o
noncomputable def krun{α:Type}(lt:Nat→Nat→Bool):KasT α→α
 | .ret a=>a
 | .ask i j k=>krun lt (k (lt i j))
noncomputable def lowB{α:Type}(n:Nat)(f:α→Bool):KasT α→Bool
 | .ret a=>f a
 | .ask i j k=>Nat.blt i n&&Nat.blt j n && !(Nat.beq i j)&&lowB n f (k true)&&lowB n f (k false)
noncomputable def okP(n:Nat)(p:Array Nat):Bool:=Nat.beq p.toList.length n&&p.toList.all fun i=>Nat.blt i n
theorem lowB_ask{α:Type}{n:Nat}{f:α→Bool}{i j:Nat}{k:Bool→KasT α}(l:lowB n f (.ask i j k)=true):(i<n∧j<n∧i≠j)∧∀ b,lowB n f (k b)=true:=by
 obtain ⟨l,l4⟩:=Bool.and_eq_true_iff.mp (show (Nat.blt i n&&Nat.blt j n && !(Nat.beq i j)&&lowB n f (k true)&&lowB n f (k false))=true from l)
 obtain ⟨l,l3⟩:=Bool.and_eq_true_iff.mp l
 obtain ⟨l,l5⟩:=Bool.and_eq_true_iff.mp l
 obtain ⟨l1,l2⟩:=Bool.and_eq_true_iff.mp l
 refine ⟨⟨Nat.blt_eq.mp l1,Nat.blt_eq.mp l2,fun q => ?_⟩,fun b => ?_⟩
 ·rw[q,show Nat.beq j j=true from Nat.beq_refl j] at l5; exact noB l5
 ·first | contradiction | cases b
  ·exact l4
  ·exact l3
theorem krun_low{α:Type}{n:Nat}{f:α→Bool}{lt:Nat→Nat→Bool}{cmp:Nat→Nat→(Bool→Shared→Prop)→Shared→Prop}{s:Shared}(hc:∀ i j C,i<n→j<n→C (lt i j) s→cmp i j C s){Q:α→Shared→Prop}(t:KasT α):lowB n f t=true→Q (krun lt t) s→t.kasWp cmp Q s:=by
 induction t with
 | ret a=>exact fun ι h=>h
 | ask i j k ih =>
  intro l h
  obtain ⟨⟨h1,h2,_⟩,h3⟩:=lowB_ask l
  exact hc i j _ h1 h2 (ih (lt i j) (h3 _) h)
theorem krun_ok{α:Type}{n:Nat}{f:α→Bool}{lt:Nat→Nat→Bool}(t:KasT α):lowB n f t=true→f (krun lt t)=true:=by
 induction t with
 | ret a=>exact id
 | ask i j k ih=>exact fun l=>ih _ ((lowB_ask l).2 _)
theorem krun_congr{α:Type}{n:Nat}{f:α→Bool}{lt lt':Nat→Nat→Bool}(h:∀ i j,i<n→j<n→i≠j→lt i j=lt' i j)(t:KasT α):lowB n f t=true→krun lt t=krun lt' t:=by
 induction t with
 | ret a=>exact fun ι=>rfl
 | ask i j k ih =>
  intro l
  obtain ⟨⟨h1,h2,h3⟩,h4⟩:=lowB_ask l
  show krun lt (k (lt i j))=krun lt' (k (lt' i j))
  rw[h i j h1 h2 h3]; exact ih _ (h4 _)
theorem low_sort{n:Nat}(h:2≤n∧n≤5):lowB n (okP n) (kas_sort n)=true:=by
 have hc:n=2∨n=3∨n=4∨n=5:=by trivial
 rcases hc with rfl | rfl | rfl | rfl
 ·decide+kernel
 ·decide+kernel
 ·decide+kernel
 ·decide+kernel
noncomputable def srtP{α:Type}(d:α)(lt:α→α→Bool)(xs:List α):List Nat:=(krun (fun i j=>lt (xs.getD i d) (xs.getD j d)) (kas_sort xs.length)).toList
noncomputable def srt{α:Type}(d:α)(lt:α→α→Bool)(xs:List α):List α:=if xs.length<2 then xs else (srtP d lt xs).map fun i=>xs.getD i d
theorem srtP_ok{α:Type}{d:α}{lt:α→α→Bool}{xs:List α}(h:2≤xs.length∧xs.length≤5):(srtP d lt xs).length=xs.length∧∀ i∈srtP d lt xs,i<xs.length:=by
 have:=krun_ok (lt:=fun i j=>lt (xs.getD i d) (xs.getD j d)) (kas_sort xs.length) (low_sort h)
 obtain ⟨h1,h2⟩:=Bool.and_eq_true_iff.mp this
 exact ⟨Nat.eq_of_beq_eq_true h1,fun i hi=>Nat.blt_eq.mp (List.all_eq_true.mp h2 i hi)⟩
noncomputable def allL(m:Nat):Nat→List (List Nat)
 | 0=>[[]]
 | k+1=>(List.range m).flatMap fun a=>(allL m k).map (a :: ·)
theorem allL_mem{m:Nat}{l:List Nat}(h:∀ a∈l,a<m):l∈allL m l.length:=by
 induction l with
 | nil=>exact .head _
 | cons a l ih=>exact List.mem_flatMap.mpr ⟨a,List.mem_range.mpr (h a (.head _)),List.mem_map_of_mem (ih fun b hb=>h b (.tail _ hb))⟩
noncomputable def incB:List Nat→Bool
 | []=>true
 | a::r=>r.all (fun b=>Nat.blt a b)&&incB r
noncomputable def ndB:List Nat→Bool
 | []=>true
 | a::r=>r.all (fun b => !(Nat.beq a b))&&ndB r
noncomputable def goodB(n:Nat)(q:List Nat):Bool:=incB ((krun (fun i j=>Nat.blt (q.getD i 0) (q.getD j 0)) (kas_sort n)).toList.map fun i=>q.getD i 0)
theorem all_good{n:Nat}(h:2≤n∧n≤5):(allL n n).all (fun q => !(ndB q)||goodB n q)=true:=by
 have hc:n=2∨n=3∨n=4∨n=5:=by trivial
 rcases hc with rfl | rfl | rfl | rfl
 ·decide+kernel
 ·decide+kernel
 ·decide+kernel
 ·decide+kernel
theorem incB_pw{l:List Nat}(h:incB l=true):l.Pairwise (· < ·):=by
 induction l with
 | nil=>exact .nil
 | cons a r ih =>
  obtain ⟨h1,h2⟩:=Bool.and_eq_true_iff.mp (show (r.all (fun b=>Nat.blt a b)&&incB r)=true from h)
  exact .cons (fun b hb=>Nat.blt_eq.mp (List.all_eq_true.mp h1 b hb)) (ih h2)
theorem ndB_of{l:List Nat}(h:l.Nodup):ndB l=true:=by
 induction l with
 | nil=>rfl
 | cons a r ih =>
  obtain ⟨h1,h2⟩:=List.nodup_cons.mp h
  refine Bool.and_eq_true_iff.mpr ⟨List.all_eq_true.mpr fun b hb => ?_,ih h2⟩
  cases e:Nat.beq a b with
  | false=>rfl
  | true=>exact absurd (Nat.eq_of_beq_eq_true e▸hb) h1
noncomputable def rankAt(r:Nat→Nat)(n i:Nat):Nat:=(List.range n).countP fun j=>decide (r j<r i)
theorem rank_lt{r:Nat→Nat}{n i j:Nat}(hi:i<n):(rankAt r n i<rankAt r n j)=(r i<r j):=by
 have mono:∀ {a b:Nat},r a≤r b→rankAt r n a≤rankAt r n b:=fun {a b} h=>by
  refine List.countP_mono_left fun k ι hk => ?_
  have:=of_decide_eq_true hk
  exact decide_eq_true (by trivial)
 refine propext ⟨fun h => ?_,fun h => ?_⟩
 ·by_cases hc:r i<r j
  ·exact hc
  ·have:=mono (a:=j) (b:=i) (by trivial); trivial
 ·unfold rankAt
  have hm:i∈List.range n:=List.mem_range.mpr hi
  obtain ⟨l1,l2,e⟩:=List.append_of_mem hm
  rw[e,List.countP_append,List.countP_append,List.countP_cons,List.countP_cons]
  have e1:l1.countP (fun k=>decide (r k<r i))≤l1.countP (fun k=>decide (r k<r j)):=List.countP_mono_left fun k ι hk=>decide_eq_true (by have:=of_decide_eq_true hk; trivial)
  have e2:l2.countP (fun k=>decide (r k<r i))≤l2.countP (fun k=>decide (r k<r j)):=List.countP_mono_left fun k ι hk=>decide_eq_true (by have:=of_decide_eq_true hk; trivial)
  rw[decide_eq_true h,decide_eq_false (Nat.lt_irrefl (r i))]
  simp only[if_true,Bool.false_eq_true,if_false]
  exact Nat.add_lt_add_of_le_of_lt e1 (Nat.lt_succ_of_le e2)
theorem rank_below{r:Nat→Nat}{n i:Nat}(hi:i<n):rankAt r n i<n:=by
 unfold rankAt
 have h:(List.range n).countP (fun j=>decide (r j<r i))≤n:=by
  have:=List.countP_le_length (p:=fun j=>decide (r j<r i)) (l:=List.range n)
  rwa [List.length_range] at this
 have h2:(List.range n).countP (fun j=>decide (r j<r i))≠n:=fun q=>by
  have:=List.countP_eq_length.mp (q.trans List.length_range.symm) i (List.mem_range.mpr hi)
  exact absurd (of_decide_eq_true this) (Nat.lt_irrefl _)
 trivial
theorem perm_sub{α:Type}{a:List α}:∀ {b:List α},a.Nodup→(∀ x∈a,x∈b)→b.length≤a.length→a.Perm b:=fun {b}=>by
 induction a generalizing b with
 | nil=>exact fun ι ι h=>by rw[List.length_eq_zero_iff.mp (Nat.le_zero.mp h)]
 | cons x a ih =>
  intro hn hs hl
  obtain ⟨hx,hn⟩:=List.nodup_cons.mp hn
  obtain ⟨l1,l2,rfl⟩:=List.append_of_mem (hs x (.head _))
  refine ((ih (b:=l1++l2) hn (fun y hy => ?_) ?_).cons x).trans List.perm_middle.symm
  ·rcases List.mem_append.mp (hs y (.tail _ hy)) with h | h
   ·exact List.mem_append_left _ h
   ·rcases List.mem_cons.mp h with rfl | h
    ·exact absurd hy hx
    ·exact List.mem_append_right _ h
  ·rw[List.length_append,List.length_cons] at hl
   rw[List.length_cons] at hl
   rw[List.length_append]; trivial
theorem srt_rank{α:Type}{d:α}{lt:α→α→Bool}{xs:List α}{r:α→Nat}(hn:xs.Nodup)(h5:xs.length≤5)(hr:∀ a∈xs,∀ b∈xs,a≠b→r a≠r b∧lt a b=decide (r a<r b)):(srt d lt xs).Perm xs∧(srt d lt xs).Pairwise fun a b=>r a<r b:=by
 unfold srt
 by_cases h2:xs.length<2
 ·rw[if_pos h2]
  refine ⟨.refl _,?_⟩
  cases xs with
  | nil=>exact .nil
  | cons x l=>cases l with
   | nil=>exact .cons (fun ι h=>nomatch h) .nil
   | cons y l=>exact absurd h2 (Nat.not_lt.mpr (Nat.le_add_left 2 l.length))
 rw[if_neg h2]
 have h25:2≤xs.length∧xs.length≤5:=⟨Nat.le_of_not_lt h2,h5⟩
 obtain ⟨p1,p2⟩:=srtP_ok (d:=d) (lt:=lt) h25
 let f:Nat→Nat:=fun i=>r (xs.getD i d)
 have gd:∀ i,i<xs.length→xs.getD i d∈xs:=fun i hi=>by
  rw[List.getD_eq_getElem?_getD,List.getElem?_eq_getElem hi]; exact List.getElem_mem hi
 have gne:∀ i j,i<xs.length→j<xs.length→i≠j→xs.getD i d≠xs.getD j d:=fun i j hi hj hij q=>by
  rw[List.getD_eq_getElem?_getD,List.getElem?_eq_getElem hi,List.getD_eq_getElem?_getD,List.getElem?_eq_getElem hj] at q
  have q:=Option.some.inj (show some xs[i]=some xs[j] from congrArg some q)
  have pw:=List.pairwise_iff_getElem.mp hn
  rcases Nat.lt_or_gt_of_ne hij with h | h
  ·exact pw i j hi hj h q
  ·exact pw j i hj hi h q.symm
 let q:List Nat:=(List.range xs.length).map (rankAt f xs.length)
 have qd:∀ i,i<xs.length→q.getD i 0=rankAt f xs.length i:=fun i hi=>by
  show ((List.range xs.length).map (rankAt f xs.length)).getD i 0=_
  rw[List.getD_eq_getElem?_getD,List.getElem?_map,List.getElem?_range hi]; rfl
 have ql:q.length=xs.length:=by show ((List.range xs.length).map _).length=_; rw[List.length_map,List.length_range]
 have qb:∀ a∈q,a<xs.length:=fun a ha=>by
  obtain ⟨i,hi,rfl⟩:=List.mem_map.mp ha
  exact rank_below (List.mem_range.mp hi)
 have qn:q.Nodup:=by
  refine List.pairwise_map.mpr ?_
  refine List.Pairwise.imp_of_mem (R:=fun a b=>a≠b) (fun {a b} ha hb hab q => ?_) (List.nodup_range (n:=xs.length))
  have ha:=List.mem_range.mp ha
  have hb:=List.mem_range.mp hb
  have hne:=(hr _ (gd a ha) _ (gd b hb) (gne a b ha hb hab)).1
  have h1:=rank_lt (r:=f) (j:=b) ha
  have h2:=rank_lt (r:=f) (j:=a) hb
  rw[q] at h1
  rw[q] at h2
  have h1:¬ f a<f b:=fun z=>Nat.lt_irrefl _ (h1.mpr z)
  have h2:¬ f b<f a:=fun z=>Nat.lt_irrefl _ (h2.mpr z)
  exact hne (Nat.le_antisymm (Nat.le_of_not_lt h2) (Nat.le_of_not_lt h1))
 have hg:goodB xs.length q=true:=by
  have:=List.all_eq_true.mp (all_good h25) q (by have:=allL_mem qb; rwa [ql] at this)
  rw[ndB_of qn] at this
  exact this
 have ec:krun (fun i j=>lt (xs.getD i d) (xs.getD j d)) (kas_sort xs.length)=krun (fun i j=>Nat.blt (q.getD i 0) (q.getD j 0)) (kas_sort xs.length):=by
  refine krun_congr (fun i j hi hj hij => ?_) _ (low_sort h25)
  rw[(hr _ (gd i hi) _ (gd j hj) (gne i j hi hj hij)).2,qd i hi,qd j hj]
  have:=rank_lt (r:=f) (j:=j) hi
  cases e:Nat.blt (rankAt f xs.length i) (rankAt f xs.length j) with
  | true=>exact decide_eq_true (this.mp (Nat.blt_eq.mp e))
  | false=>exact decide_eq_false fun z=>by rw[Nat.blt_eq.mpr (this.mpr z)] at e; exact noB e.symm
 have hp:(srtP d lt xs).Pairwise fun i j=>f i<f j:=by
  have h1:(srtP d lt xs).Pairwise fun i j=>q.getD i 0<q.getD j 0:=by
   have:=incB_pw hg
   rw[← ec] at this
   exact List.pairwise_map.mp this
  refine List.Pairwise.imp_of_mem (fun {i j} hi hj h => ?_) h1
  rw[qd i (p2 i hi),qd j (p2 j hj)] at h
  exact (rank_lt (r:=f) (p2 i hi)).mp h
 have hs:((srtP d lt xs).map fun i=>xs.getD i d).Pairwise fun a b=>r a<r b:=List.pairwise_map.mpr hp
 have hsn:((srtP d lt xs).map fun i=>xs.getD i d).Nodup:=hs.imp fun {a b} h (q:a=b)=>Nat.lt_irrefl (r b) (by rw[q] at h; exact h)
 refine ⟨?_,hs⟩
 refine perm_sub hsn (fun a ha => ?_) (by rw[List.length_map,p1]; exact Nat.le_refl _)
 obtain ⟨i,hi,rfl⟩:=List.mem_map.mp ha
 exact gd i (p2 i hi)
theorem srt_known{α:Type}[BEq α][LawfulBEq α]{d:α}{lt:α→α→Bool}{known xs:List α}(hk:known.Pairwise fun a b=>lt a b=true∧lt b a=false)(hkn:known.Nodup)(hn:xs.Nodup)(h5:xs.length≤5)(hx:∀ a∈xs,a∈known):srt d lt xs=known.filter (xs.contains ·):=by
 let r:α→Nat:=fun a=>known.idxOf a
 have ri:∀ a∈known,known[r a]? = some a:=fun a ha=>by
  have hl:=List.idxOf_lt_length_of_mem ha
  rw[List.getElem?_eq_getElem hl]; exact congrArg some (List.getElem_idxOf hl)
 have inj:∀ a∈known,∀ b∈known,r a=r b→a=b:=fun a ha b hb q=>by
  have h1:=ri a ha
  rw[q,ri b hb] at h1
  exact (Option.some.inj h1).symm
 have plt:∀ a∈known,∀ b∈known,r a<r b→lt a b=true∧lt b a=false:=fun a ha b hb h=>by
  have hla:=List.idxOf_lt_length_of_mem ha
  have hlb:=List.idxOf_lt_length_of_mem hb
  have:=List.pairwise_iff_getElem.mp hk (r a) (r b) hla hlb h
  rw[show known[r a]=a from List.getElem_idxOf hla,show known[r b]=b from List.getElem_idxOf hlb] at this
  exact this
 obtain ⟨h1,h2⟩:=srt_rank (d:=d) (lt:=lt) (r:=r) hn h5 fun a ha b hb hab=>by
  have hne:r a≠r b:=fun q=>hab (inj a (hx a ha) b (hx b hb) q)
  refine ⟨hne,?_⟩
  by_cases hlt:r a<r b
  ·rw[decide_eq_true hlt]; exact (plt a (hx a ha) b (hx b hb) hlt).1
  ·rw[decide_eq_false hlt]; exact (plt b (hx b hb) a (hx a ha) (by trivial)).2
 have kp:known.Pairwise fun a b=>r a<r b:=by
  refine List.pairwise_iff_getElem.mpr fun i j hi hj hij => ?_
  show known.idxOf known[i]<known.idxOf known[j]
  rw[hkn.idxOf_getElem i hi,hkn.idxOf_getElem j hj]; exact hij
 refine List.Perm.eq_of_pairwise (le:=fun a b=>r a<r b) (fun a b ι ι h3 h4=>absurd h3 (Nat.lt_asymm h4)) h2 (kp.filter _) (h1.trans ?_)
 refine (List.perm_ext_iff_of_nodup hn (hkn.filter _)).mpr fun a => ?_
 rw[List.mem_filter,List.contains_iff_mem]
 exact ⟨fun h=>⟨hx a h,h⟩,fun h=>h.2⟩
section
noncomputable abbrev Sc:=List (Str×NameKind)
noncomputable abbrev Loc:=List (Str×V)
inductive Fl where
 | next | brk | cont
 | ret (v:V)
inductive Src where
 | arg (i:Nat) | kw (i:Nat) | dflt (v:V)
noncomputable def Src.get(args kws:List V):Src→V
 | .arg i=>args.getD i .none
 | .kw i=>kws.getD i .none
 | .dflt v=>v
structure Pe where
 glob:Str→Option V
 fn:Addr→Option FuncData
 sig:Addr→Nat→List Str→List (Str×Src)→Prop
 cls:Addr→Str→Option (Option Addr)
 init:Addr→Option Addr
 lam:Sc→Option (Addr×Addr×Str)
 nsm:Option (List (Str×Str))
 lst:Addr→Option (List Int)
 gen:Addr→Prop
noncomputable def setL:Loc→Str→V→Loc
 | [],x,v=>[(x,v)]
 | (y,u)::r,x,v=>if y=x then (x,v)::r else (y,u)::setL r x v
noncomputable def lookK(pe:Pe)(loc:Loc)(x:Str):Option NameKind→Option V
 | some .local=>loc.lookup x
 | some .cell=>loc.lookup x
 | some .free=>loc.lookup x
 | some .globalImplicit=>pe.glob x
 | _=>none
noncomputable def look(pe:Pe)(sc:Sc)(loc:Loc)(x:Str):Option V :=
 if x="__debug__"∨x="__classdict__" then none else lookK pe loc x (sc.lookup x)
noncomputable def cst:Const→Option V
 | .none=>some .none
 | .bool b=>some (.bool b)
 | .int i=>some (.int i)
 | .str s=>some (.str s)
 | _=>none
noncomputable def lim:Nat:=16777216
noncomputable def truthO:AObj→Option Bool
 | .list xs=>if xs.length≤lim then some (!xs.isEmpty) else none
 | .dict kvs=>if kvs.length≤lim then some (!kvs.isEmpty) else none
 | _=>none
noncomputable def truth(H:Hp):V→Option Bool
 | .none=>some false
 | .bool b=>some b
 | .int i=>some (i != 0)
 | .str s=>if s.length≤lim then some (s.length != 0) else none
 | .tup xs=>if xs.length≤lim then some (!xs.isEmpty) else none
 | .ref i=>truthO (H.f i)
 | _=>none
noncomputable def strsOf:List V→Option (List Str)
 | []=>some []
 | .str s::r=>(strsOf r).map (s :: ·)
 | _::_=>none
noncomputable def isNone:V→Bool
 | .none=>true
 | _=>false
noncomputable def listTab:List (Str×Pm):=[("append",.lAppend),("pop",.lPop),("sort",.lSort)]
noncomputable def dictTab:List (Str×Pm):=[("items",.dItems),("get",.dGet)]
noncomputable def setTab:List (Str×Pm):=[("add",.sAdd)]
noncomputable def strTab:List (Str×Pm):=[("join",.tJoin),("strip",.tStrip),("rsplit",.tRsplit),("split",.tSplit),("find",.tFind),("startswith",.tStarts),("endswith",.tEnds)]
noncomputable def fldN(pe:Pe)(name:Str)(i:Nat)(C:Addr):AObj→Option V
 | .ns kvs=>(pe.cls C name).bind fun m=>(kvs.lookup name).or (m.map fun f => .mt f (.ref i))
 | _=>none
noncomputable def attrR(pe:Pe)(H:Hp)(name:Str)(i:Nat):AObj→Option V
 | .inst C d=>fldN pe name i C (H.f d)
 | .list _=>(listTab.lookup name).map fun p => .bm p (.ref i)
 | .dict _=>(dictTab.lookup name).map fun p => .bm p (.ref i)
 | .set _=>(setTab.lookup name).map fun p => .bm p (.ref i)
 | _=>none
noncomputable def attr(pe:Pe)(H:Hp)(name:Str):V→Option V
 | .ref i=>attrR pe H name i (H.f i)
 | .str s=>(strTab.lookup name).map fun p => .bm p (.str s)
 | _=>none
noncomputable def fldR(pe:Pe)(H:Hp)(name:Str)(i:Nat):AObj→Option V
 | .inst C d=>fldN pe name i C (H.f d)
 | _=>none
noncomputable def fld(pe:Pe)(H:Hp)(name:Str):V→Option V
 | .ref i=>fldR pe H name i (H.f i)
 | _=>none
noncomputable def itemsO(i:Nat):AObj→Option (List V×Option Nat)
 | .list xs=>some (xs,some i)
 | _=>none
noncomputable def items(H:Hp):V→Option (List V×Option Nat)
 | .ref i=>itemsO i (H.f i)
 | .tup xs=>some (xs,none)
 | _=>none
noncomputable def stands(H H':Hp):Option Nat→Prop
 | none=>True
 | some i=>H'.f i=H.f i
noncomputable def ekind:Expr→Nat
 | .Starred _ _=>1
 | .Set _ _ _=>2
 | .ListComp _ _ _ _=>3
 | .SetComp _ _ _ _=>3
 | .DictComp _ _ _ _ _=>3
 | .Slice _ _ _ _=>4
 | .UnaryOp .Not _ _=>5
 | .BoolOp _ _ _=>5
 | .IfExp _ _ _ _=>5
 | .Compare _ _ _ _=>5
 | _=>0
noncomputable def isStar(e:Expr):Bool:=Nat.beq (ekind e) 1
noncomputable def isSetE(e:Expr):Bool:=Nat.beq (ekind e) 2
noncomputable def isCompE(e:Expr):Bool:=Nat.beq (ekind e) 3
noncomputable def isSlice(e:Expr):Bool:=Nat.beq (ekind e) 4
noncomputable def plainT(e:Expr):Bool:=Nat.ble (ekind e) 4
noncomputable def isSuper:Expr→Bool
 | .Call (.Name id _) [] [] _=>id=="super"
 | _=>false
noncomputable def isName:Expr→Option Str
 | .Name id _=>some id
 | _=>none
noncomputable def unpO:AObj→Option (List V)
 | .list xs=>some xs
 | _=>none
noncomputable def unp(H:Hp):V→Option (List V)
 | .tup xs=>some xs
 | .ref i=>unpO (H.f i)
 | _=>none
noncomputable def ownK:Option NameKind→Bool
 | some .local=>true
 | some .cell=>true
 | _=>false
noncomputable def own(sc:Sc)(id:Str):Bool:=ownK (sc.lookup id)
noncomputable def bindTs(sc:Sc):List Expr→List V→Loc→Option Loc
 | [],[],loc=>some loc
 | t::ts,v::vs,loc=>(isName t).bind fun id=>if own sc id then bindTs sc ts vs (setL loc id v) else none
 | _,_,_=>none
noncomputable def bindT(sc:Sc)(H:Hp):Expr→V→Loc→Option Loc
 | .Name id _,v,loc=>if own sc id then some (setL loc id v) else none
 | .Tuple ts _ _,v,loc=>(unp H v).bind fun xs=>bindTs sc ts xs loc
 | _,_,_=>none
noncomputable def tnames:Expr→List Str
 | .Name id _=>[id]
 | .Tuple ts _ _=>ts.filterMap isName
 | _=>[]
noncomputable def compK(sc names:Sc)(x:Str):NameKind→Bool
 | .cell=>names.lookup x==some .cell
 | .free=>sc.lookup x==some .cell&&names.lookup x==some .free
 | .local=>names.lookup x==some .local
 | _=>true
noncomputable def compOk(pe:Pe)(sc:Sc)(scope:Scope):Bool:=decide (scope.kind = .function)&&(pe.lam scope.names).isNone&&scope.names.all fun p=>compK sc scope.names p.1 p.2
noncomputable def around(names:Sc)(loc:Loc):Loc:=loc.filter fun p=>names.lookup p.1==some .free
noncomputable def atIdx(xs:List V)(k:Int):Option V:=if ¬ (-1000000<k∧k<1000000) then none else if 0≤k then xs[k.toNat]? else if-k≤xs.length then xs[(xs.length+k).toNat]? else none
noncomputable def idxO:AObj→V→Option V
 | .list xs,.int k=>atIdx xs k
 | .dict kvs,.str k=>kvs.lookup k
 | _,_=>none
noncomputable def index(H:Hp):V→V→Option V
 | .ref i,k=>idxO (H.f i) k
 | .tup xs,.int k=>atIdx xs k
 | _,_=>none
noncomputable def cutV(xs:List V)(lo hi st:Option Int):List V :=
 (sliceRange (sliceBounds lo hi st xs.length).1 (sliceBounds lo hi st xs.length).2.1 (sliceBounds lo hi st xs.length).2.2).filterMap (xs[·]?)
noncomputable def ltS(a b:Str):Bool:=decide (a.cps.toList<b.cps.toList)
noncomputable def ltK:List Str→List Str→Bool
 | [],[]=>false
 | [],_::_=>true
 | _::_,[]=>false
 | a::r,b::q=>if a=b then ltK r q else ltS a b
noncomputable def pairKey:V→List Str
 | .tup [.str a,.str b]=>[a,b]
 | .str a=>[a]
 | _=>[]
noncomputable def isS:V→Bool
 | .str _=>true
 | _=>false
noncomputable def isPr:List V→Bool
 | [a,b]=>isS a&&isS b
 | _=>false
noncomputable def isPairV:V→Bool
 | .tup xs=>isPr xs
 | _=>false
noncomputable def ltPair(a b:V):Bool:=ltK (pairKey a) (pairKey b)
structure SortV (xs ys:List V):Prop where
 kind:xs.all isPairV=true∨xs.all isS=true
 few:xs.length≤5
 eq:srt .none ltPair xs=ys
noncomputable def putD(H:Hp)(d:Nat)(k:Str)(v:V):AObj→Option Hp
 | .dict kvs=>if kvs.length<lim then some (H.put d (.dict (setL kvs k v))) else none
 | _=>none
noncomputable def putN(H:Hp)(d:Nat)(k:Str)(v:V):AObj→Option Hp
 | .ns kvs=>if kvs.length<1000 then some (H.put d (.ns (setL kvs k v))) else none
 | _=>none
noncomputable def instO(pe:Pe)(name:Str):AObj→Option Nat
 | .inst C d=>(pe.cls C name).map fun ι=>d
 | _=>none
noncomputable def instOf(pe:Pe)(H:Hp)(name:Str):V→Option Nat
 | .ref i=>instO pe name (H.f i)
 | _=>none
noncomputable def augOk:V→Bool
 | .str _=>true
 | .int _=>true
 | _=>false
noncomputable def callable(pe:Pe):V→Bool
 | .fn a=>(pe.fn a).isSome||(pe.init a).isSome
 | .mt g _=>(pe.fn g).isSome
 | .bm _ _=>true
 | .bf _=>true
 | _=>false
noncomputable def brace:Str:=⟨#[125]⟩
noncomputable def nameKey(n:Str):List Str:=Txt.splitMax n brace 1
noncomputable def ltName(a b:Str):Bool:=ltK (nameKey a) (nameKey b)
structure SortsTo (ks out:List Str):Prop where
 few:ks.length≤5
 eq:∀ l,l.Perm ks→srt Str.empty ltName l=out
noncomputable def nsMapName:Str:="_namespace_map"
noncomputable def keepable(_:V):Bool:=true
noncomputable def flV:Fl→Option V
 | .ret v=>some v
 | .next=>some .none
 | _=>none
noncomputable def isNext:Fl→Bool
 | .next=>true
 | _=>false
noncomputable def goesOn:Fl→Bool
 | .next=>true
 | .cont=>true
 | _=>false
set_option genCtorIdx false in
inductive Em where
 | el (e:Expr)
 | kv (k v:Expr)
set_option genCtorIdx false in
inductive Tk where
 | e (sc:Sc) (loc:Loc) (e:Expr) (H:Hp)
 | t (sc:Sc) (loc:Loc) (e:Expr) (H:Hp)
 | cp (sc:Sc) (loc:Loc) (e:Expr) (H:Hp)
 | x (sc:Sc) (st:Stmt) (loc:Loc) (H:Hp)
 | xs (sc:Sc) (body:List Stmt) (loc:Loc) (H:Hp)
 | c (f:V) (args:List V) (kws:List (Str×V)) (H:Hp)
 | run (f:Addr) (args:List V) (kws:List (Str×V)) (H:Hp)
 | l (sc:Sc) (loc:Loc) (es:List Expr) (H:Hp)
 | kw (sc:Sc) (loc:Loc) (ks:List Keyword) (H:Hp)
 | ifs (sc:Sc) (loc:Loc) (es:List Expr) (H:Hp)
 | opt (sc:Sc) (loc:Loc) (a:Option Expr) (H:Hp)
 | join (sc:Sc) (loc:Loc) (es:List Expr) (out:Str) (H:Hp)
 | bool (sc:Sc) (loc:Loc) (op:BoolOp) (es:List Expr) (H:Hp)
 | test (sc:Sc) (loc:Loc) (op:BoolOp) (es:List Expr) (H:Hp)
 | asg (sc:Sc) (t:Expr) (v:V) (loc:Loc) (H:Hp)
 | asgs (sc:Sc) (ts:List Expr) (v:V) (loc:Loc) (H:Hp)
 | for (sc:Sc) (target:Expr) (body:List Stmt) (src:Option Nat) (H0:Hp) (xs:List V) (loc:Loc) (H:Hp)
 | forL (sc:Sc) (target:Expr) (body:List Stmt) (xs:List V) (loc:Loc) (H:Hp)
 | forG (sc:Sc) (target:Expr) (body:List Stmt) (src:List Nat) (H0:Hp) (xs:List V) (loc:Loc) (H:Hp)
 | cl (sc:Sc) (em:Em) (gens:List Comprehension) (target:Expr) (ifs:List Expr) (loc:Loc) (src:Option Nat) (H0:Hp) (xs:List V) (H:Hp)
 | inn (sc:Sc) (em:Em) (gens:List Comprehension) (loc:Loc) (H:Hp)
set_option genCtorIdx false in
inductive Rs where
 | v (x:V) (H:Hp)
 | b (b:Bool) (H:Hp)
 | f (fl:Fl) (loc:Loc) (H:Hp)
 | l (xs:List V) (H:Hp)
 | k (xs:List (Str×V)) (H:Hp)
 | o (i:Option Int) (H:Hp)
 | s (loc:Loc) (H:Hp)
noncomputable def kvOf:V→Str×V
 | .tup [.str k,v]=>(k,v)
 | _=>(Str.empty,.none)
noncomputable def dictL(ys:List V):List (Str×V):=ys.foldl (fun d p=>setL d (kvOf p).1 (kvOf p).2) []
end
section
noncomputable abbrev Cx.M(cx:Cx):Model:=model cx.prog cx.w
structure Ar (n:Nat) (A:Around):Prop where
 handled:A.handled=none
 depth:A.depth+4*n<1000
 units:A.units+20*n<9900
structure ArF (n:Nat) (A:Around):Prop where
 handled:A.handled=none
 depth:A.depth+4*n+2<1000
 units:A.units+20*n+10<9900
theorem Ar.f{n:Nat}{A:Around}(x:Ar (n+1) A):ArF n A:=⟨x.handled,by have:=x.depth; trivial,by have:=x.units; trivial⟩
theorem Ar.le{n m:Nat}{A:Around}(x:Ar n A)(h:m≤n):Ar m A:=⟨x.handled,by have:=x.depth; trivial,by have:=x.units; trivial⟩
structure EnvOk (cx:Cx) (env:Env) (sc:Sc):Prop where
 kind:env.scope.kind = .function
 names:∀ x k,sc.lookup x=some k→env.kindOf x=some k∨(k = .free∧env.kindOf x=some .cell)
 globals:env.globals=mainGlobals
 builtins:env.builtins=builtinsNs
 code:∃ q,cx.g.CodeRec env.code q
 lam:∀ c P q,cx.lam sc=some (c,P,q)→env.code = .ref c∧env.qual++"<lambda>"=q
structure Vars (cx:Cx) (env:Env) (n:Nat) (ρ:Nat→Addr) (h:Heap) (loc:Loc):Prop where
 ns:∃ m,h.Ns env.locals m∧∀ x v,loc.lookup x=some v→env.kindOf x=some .local→∃ u,m x=some u∧Rep n ρ h u v
 cell:∀ x v,loc.lookup x=some v→(env.kindOf x=some .cell∨env.kindOf x=some .free)→Ex2 fun c u=>env.cells.lookup x=some c∧h.IsCell c (some u)∧Rep n ρ h u v
 apL:∀ i,i<n→ρ i≠env.locals
 apC:∀ x c,env.cells.lookup x=some c→∀ i,i<n→ρ i≠c
 cells:∀ x c,env.cells.lookup x=some c→(∃ v,h.IsCell c v)∧c≠env.locals∧cx.g.get? c=none
 has:∀ x,env.kindOf x=some .cell→∃ c,env.cells.lookup x=some c
 dist:∀ x y c,env.cells.lookup x=some c→env.cells.lookup y=some c→x=y
 low:cx.g.get? env.locals=none
theorem Stp.rep{cx ρ H s ρ' H' s'}(I:Inv cx ρ H s)(S:Stp cx NoW ρ H s ρ' H' s'){v x}(r:Rep H.n ρ s.heap v x):Rep H'.n ρ' s'.heap v x :=
 r.mono (S.kp I fun ι ι ι ι x=>x)
theorem Stp.repL{cx ρ H s ρ' H' s'}(I:Inv cx ρ H s)(S:Stp cx NoW ρ H s ρ' H' s'){v x}(r:RepL H.n ρ s.heap v x):RepL H'.n ρ' s'.heap v x :=
 r.mono (S.kp I fun ι ι ι ι x=>x)
theorem isCell_at{h h':Heap}{c:Addr}{v:Option Value}(x:h.IsCell c v)(hk:∀ o,h.get? c=some o→h'.get? c=some o):h'.IsCell c v :=
 let ⟨o,ho,hd⟩:=x; ⟨o,hk o ho,hd⟩
theorem Vars.step{cx env ρ H s ρ' H' s' loc}(I:Inv cx ρ H s)(X:Vars cx env H.n ρ s.heap loc)(S:Stp cx NoW ρ H s ρ' H' s'):Vars cx env H'.n ρ' s'.heap loc:=by
 obtain ⟨m,hn,hm⟩:=X.ns
 obtain ⟨oL,_,_,hoL,_⟩:=id hn
 have up:∀ c o,(∀ i,i<H.n→ρ i≠c)→s.heap.get? c=some o→s'.heap.get? c=some o:=fun c o hc e=>S.ext c o e hc (fun x=>x)
 refine ⟨⟨m,hn.at' fun o e=>up _ o X.apL e,fun x v e k => ?_⟩,fun x v e k => ?_,S.old hoL X.apL,fun x c e => ?_,fun x c e => ?_,X.has,X.dist,X.low⟩
 ·obtain ⟨u,a,b⟩:=hm x v e k
  exact ⟨u,a,S.rep I b⟩
 ·obtain ⟨c,u,a,b,d⟩:=X.cell x v e k
  exact ⟨c,u,a,isCell_at b fun o q=>up _ o (X.apC x c a) q,S.rep I d⟩
 ·obtain ⟨⟨v,o,ho,_⟩,_,_⟩:=X.cells x c e
  exact S.old ho (X.apC x c e)
 ·obtain ⟨⟨v,hv⟩,a,b⟩:=X.cells x c e
  exact ⟨⟨v,isCell_at hv fun o q=>up _ o (X.apC x c e) q⟩,a,b⟩
structure RepK (n:Nat) (ρ:Nat→Addr) (h:Heap) (kvs:List (Str×Value)) (kws:List (Str×V)):Prop where
 names:kvs.map (·.1)=kws.map (·.1)
 vals:RepL n ρ h (kvs.map (·.2)) (kws.map (·.2))
inductive RepF (n:Nat) (ρ:Nat→Addr) (h:Heap):Flow→Fl→Prop
 | next:RepF n ρ h .next .next
 | brk:RepF n ρ h .brk .brk
 | cont:RepF n ρ h .cont .cont
 | ret {v x}:Rep n ρ h v x→RepF n ρ h (.ret v) (.ret x)
noncomputable def Wr(env:Env):Addr→Prop:=fun a=>a=env.locals∨∃ x,env.cells.lookup x=some a
theorem Vars.notW{cx env loc ρ H s ρ' H' s' W}(X:Vars cx env H.n ρ s.heap loc)(T:Stp cx W ρ H s ρ' H' s'):∀ i,H.n≤i→i<H'.n→¬ Wr env (ρ' i):=fun i h1 h2 w=>by
 have hf:=T.fresh i h1 h2
 obtain ⟨m,⟨oL,_,_,hoL,_⟩,_⟩:=X.ns
 rcases w with w | ⟨x,w⟩
 ·rw[w,hoL] at hf; first | contradiction | cases hf
 ·obtain ⟨⟨v,o,ho,_⟩,_,_⟩:=X.cells x _ w
  rw[ho] at hf; first | contradiction | cases hf
inductive Cal (n:Nat) (ρ:Nat→Addr) (h:Heap):Value→List Value→V→Prop
 | obj {f x}:Rep n ρ h f x→Cal n ρ h f [] x
 | mt {g:Addr} {w:Value} {y:V}:Rep n ρ h w y→Cal n ρ h (.ref g) [w] (.mt g y)
 | bm {p:Pm} {w:Value} {y:V}:Rep n ρ h w y→Cal n ρ h (.builtin p.id) [w] (.bm p y)
structure FnOk (cx:Cx) (f:Addr) (fd:FuncData):Prop where
 obj:∃ o,cx.g.get? f=some o∧o.data = .func fd
 glo:fd.globals=mainGlobals
 bui:fd.builtins=builtinsNs
 clo:fd.closure=[]
 kind:fd.scope.kind = .function
 gen:fd.scope.isGenerator=false
 cor:fd.scope.isCoroutine=false
 code:cx.g.CodeRec fd.code fd.qualname
 lam:∀ c P q,cx.lam fd.scope.names=some (c,P,q)→fd.code = .ref c∧fd.qualname++".<locals>."++"<lambda>"=q
noncomputable def SrcV(g:Heap)(vs:List Value)(kvs:List (Str×Value)):Src→Value→Prop
 | .arg i,u=>vs[i]? = some u
 | .kw i,u=>(kvs.map (·.2))[i]? = some u
 | .dflt v,u=>∀ n ρ h,(∀ b o,g.get? b=some o→h.get? b=some o)→Rep n ρ h u v
inductive Srcs (g:Heap) (vs:List Value) (kvs:List (Str×Value)):List (Str×Src)→List Value→Prop
 | nil:Srcs g vs kvs [] []
 | cons {p ps u us}:SrcV g vs kvs p.2 u→Srcs g vs kvs ps us→Srcs g vs kvs (p::ps) (u::us)
structure SigOk (cx:Cx) (fd:FuncData) (n:Nat) (ks:List Str) (ps:List (Str×Src)):Prop where
 kinds:∀ p∈ps,fd.scope.names.lookup p.1=some .local∨fd.scope.names.lookup p.1=some .cell
 nodup:(ps.map (·.1)).Nodup
 bind:∀ {A:Around} {s:Shared} {vs:List Value} {kvs:List (Str×Value)} {Q:List (Str×Value)→Shared→Prop} {E:Value→Shared→Prop},(∀ b o,cx.g.get? b=some o→s.heap.get? b=some o)→vs.length=n→kvs.map (·.1)=ks →
  (∀ us:List Value,Srcs cx.g vs kvs ps us→Q ((ps.map (·.1)).zip us) s)→wpAny cx.M A (bindArgs fd ⟨vs,kvs⟩) Q E s
structure ClsOk (cx:Cx) (C:Addr) (name:Str) (m:Option Addr):Prop where
 hga:findIn cx.K (.ref C) "__getattribute__"=some (some (.builtin "object.__getattribute__"))
 hk:findIn cx.K (.ref C) "__getattr__"=some none
 hsa:findIn cx.K (.ref C) "__setattr__"=some (some (.builtin "object.__setattr__"))
 hf:findIn cx.K (.ref C) name=some (m.map .ref)
 cd:∃ cd,clsIn cx.K C=some cd∧cd.hasDict=true
 over:plainOver cx.K C=true
 cop:copiedNames.contains name=false
 fn:∀ f,m=some f→typeIn cx.K (.ref f)=some (.type "function")∧specialIn cx.K (.ref f) "__get__"=some (some (.builtin "function.__get__"))∧takesIn cx.K (.ref f)=some false
noncomputable abbrev gIf(p5 p6 p7 p8 p9:Pos):List Stmt:=[.If (.Name "namespaces" p5) [.Expr (.YieldFrom (.Name "namespaces" p6) p7) p8] [] p9]
noncomputable abbrev gBody(p1 p2 p3 p4 p5 p6 p7 p8 p9 p10:Pos):List Stmt:=[.For (.Name "namespaces" p1) (.Call (.Name "_reversed" p2) [.Name "ns_stack" p3] [] p4) (gIf p5 p6 p7 p8 p9) [] p10]
structure GfOk (cx:Cx) (f:Addr) (fd:FuncData):Prop where
 obj:∃ o,cx.g.get? f=some o∧o.data = .func fd
 gen:fd.scope.isGenerator=true
 cor:fd.scope.isCoroutine=false
 kind:fd.scope.kind = .function
 body:Ex10 fun p1 p2 p3 p4 p5 p6 p7 p8 p9 p10=>fd.body = .stmts (gBody p1 p2 p3 p4 p5 p6 p7 p8 p9 p10)
 code:cx.g.CodeRec fd.code fd.qualname
 names:fd.scope.names=([("self",.local),("ns_stack",.local),("_reversed",.local),("namespaces",.local)]:Sc)
 bind:∀ {A:Around} {s:Shared} {v1 v2:Value} {Q:List (Str×Value)→Shared→Prop} {E:Value→Shared→Prop},(∀ b o,cx.g.get? b=some o→s.heap.get? b=some o)→Q [("self",v1),("ns_stack",v2),("_reversed",.type "reversed")] s→wpAny cx.M A (bindArgs fd ⟨[v1,v2],[]⟩) Q E s
structure PeOk (pe:Pe) (cx:Cx):Prop where
 glob:∀ {x v},pe.glob x=some v→∃ u,(∀ n ρ h,Rep n ρ h u v)∧∀ {A} {env:Env} {s:Shared} {Q:Value→Shared→Prop} {E},env.globals=mainGlobals→env.builtins=builtinsNs →
  (∀ b o,cx.g.get? b=some o→s.heap.get? b=some o)→Q u s→wpAny cx.M A (loadGlobal env x) Q E s
 noLimit:cx.g.NoLimit
 sys:HasSys cx
 fn:∀ {f fd},pe.fn f=some fd→FnOk cx f fd
 kin:cx.K.In cx.g
 init:∀ {C g},pe.init C=some g→makesIn cx.K C=true∧findIn cx.K (.ref C) "__init__"=some (some (.ref g))∧typeIn cx.K (.ref g)=some (.type "function")
 cls:∀ {C name m},pe.cls C name=some m→ClsOk cx C name m
 lam:∀ sc,pe.lam sc=cx.lam sc
 lamOk:∀ {sc c P q},cx.lam sc=some (c,P,q)→CodeHd cx.g c P∧∃ mg,cx.g.Ns mainGlobals mg∧cx.g.BuiltinsAt mg P∧mainGlobals≠P
 nsm:∀ {l},pe.nsm=some l→pe.glob "list"=some (.bf .list)∧Ex2 fun a ps=>(∀ {A} {env:Env} {s:Shared} {Q:Value→Shared→Prop} {E},env.globals=mainGlobals→env.builtins=builtinsNs →
  (∀ b o,cx.g.get? b=some o→s.heap.get? b=some o)→Q (.ref a) s→wpAny cx.M A (loadGlobal env nsMapName) Q E s)∧(a==sysModules)=false∧ps.length≤1000∧cx.g.DictOf (PySem.strKind cx.prog cx.w) a ps∧ps.map (·.1)=l.map (·.1)∧StrsAre (ps.map (·.2)) (l.map (·.2))
 lst:∀ {a is},pe.lst a=some is→is.length≤1000∧∃ vs:Array Value,cx.g.IsList a vs∧∀ n ρ h,RepL n ρ h vs.toList (is.map .int)
 sig:∀ {f fd n ks ps},pe.fn f=some fd→pe.sig f n ks ps→SigOk cx fd n ks ps
 gen:∀ {f},pe.gen f→∃ fd,GfOk cx f fd
structure Cn (cx:Cx) (n:Nat) (sc:Sc) (loc:Loc) (H:Hp) (A:Around) (env:Env) (ρ:Nat→Addr) (s:Shared):Prop where
 ar:Ar n A
 en:EnvOk cx env sc
 inv:Inv cx ρ H s
 vars:Vars cx env H.n ρ s.heap loc
theorem Cn.low{cx n sc loc H A env ρ s}(C:Cn cx (n+1) sc loc H A env ρ s):Cn cx n sc loc H A env ρ s:=⟨C.ar.le (Nat.le_succ n),C.en,C.inv,C.vars⟩
theorem Cn.step{cx n sc loc H A env ρ s ρ' H' s'}(C:Cn cx n sc loc H A env ρ s)(S:Stp cx NoW ρ H s ρ' H' s'):Cn cx n sc loc H' A env ρ' s':=⟨C.ar,C.en,S.inv,C.vars.step C.inv S⟩
theorem Cn.to{cx n sc loc H A env ρ s loc' ρ' H' s'}(C:Cn cx n sc loc H A env ρ s)(I:Inv cx ρ' H' s')(X:Vars cx env H'.n ρ' s'.heap loc'):Cn cx n sc loc' H' A env ρ' s':=⟨C.ar,C.en,I,X⟩
noncomputable def GE(cx:Cx)(n:Nat)(sc:Sc)(loc:Loc)(e:Expr)(H:Hp)(x:V)(H':Hp):Prop :=
 ∀ {A env ρ s} {Q:Value→Shared→Prop} {E},Cn cx n sc loc H A env ρ s→(∀ v s' ρ',Stp cx NoW ρ H s ρ' H' s'→Rep H'.n ρ' s'.heap v x→Q v s')→wpAny cx.M A (eval e env) Q E s
noncomputable def GT(cx:Cx)(n:Nat)(sc:Sc)(loc:Loc)(e:Expr)(H:Hp)(b:Bool)(H':Hp):Prop :=
 ∀ {A env ρ s} {Q:Bool→Shared→Prop} {E},Cn cx n sc loc H A env ρ s→(∀ s' ρ',Stp cx NoW ρ H s ρ' H' s'→Q b s')→wpAny cx.M A (isTrue e env (eval e env)) Q E s
noncomputable def GC(cx:Cx)(n:Nat)(sc:Sc)(loc:Loc)(e:Expr)(H:Hp)(x:V)(H':Hp):Prop :=
 ∀ {A env ρ s} {u:Value→Sem Unit} {Q:Unit→Shared→Prop} {E},Cn cx n sc loc H A env ρ s →
  (∀ v s' ρ' Cl m,Stp cx NoW ρ H s ρ' H' s'→Rep H'.n ρ' s'.heap v x→s'.heap.Ns Cl m→(∀ i,i<H'.n→ρ' i≠Cl)→s.heap.get? Cl=none→cx.g.get? Cl=none→¬ Wr env Cl →
   wpAny cx.M A (u v) (fun ι s''=>∃ m,s''.heap.Ns Cl m∧∀ h',Heap.SameBut Cl s''.heap h'→Q () { s'' with heap:=h' }) E s')→wpAny cx.M A (evalThenUse e env u) Q E s
noncomputable abbrev QX(cx:Cx)(env:Env)(ρ:Nat→Addr)(H:Hp)(s:Shared)(fl:Fl)(loc':Loc)(H':Hp)(Q:Flow→Shared→Prop):Prop :=
 ∀ f s' ρ',Stp cx (Wr env) ρ H s ρ' H' s'→Vars cx env H'.n ρ' s'.heap loc'→RepF H'.n ρ' s'.heap f fl→Q f s'
noncomputable def GX(cx:Cx)(n:Nat)(sc:Sc)(st:Stmt)(loc:Loc)(H:Hp)(fl:Fl)(loc':Loc)(H':Hp):Prop :=
 ∀ {A env ρ s} {Q:Flow→Shared→Prop} {E},Cn cx n sc loc H A env ρ s→QX cx env ρ H s fl loc' H' Q→wpAny cx.M A (exec st env) Q E s
noncomputable def GXs(cx:Cx)(n:Nat)(sc:Sc)(body:List Stmt)(loc:Loc)(H:Hp)(fl:Fl)(loc':Loc)(H':Hp):Prop :=
 ∀ {A env ρ s} {Q:Flow→Shared→Prop} {E},Cn cx n sc loc H A env ρ s→QX cx env ρ H s fl loc' H' Q→wpAny cx.M A (execs body env) Q E s
noncomputable def GCall(cx:Cx)(n:Nat)(f:V)(args:List V)(kws:List (Str×V))(H:Hp)(x:V)(H':Hp):Prop :=
 ∀ {A s ρ fv first vs kvs} {Q:Value→Shared→Prop} {E},Ar n A→Inv cx ρ H s→Cal H.n ρ s.heap fv first f→RepL H.n ρ s.heap vs args→RepK H.n ρ s.heap kvs kws →
  (∀ v s' ρ',Stp cx NoW ρ H s ρ' H' s'→Rep H'.n ρ' s'.heap v x→Q v s')→wpAny cx.M A (call fv (first++vs) kvs) Q E s
noncomputable def GRun(cx:Cx)(n:Nat)(f:Addr)(args:List V)(kws:List (Str×V))(H:Hp)(x:V)(H':Hp):Prop :=
 ∀ {A s ρ vs kvs} {R:Result→Shared→Prop},ArF n A→Inv cx ρ H s→RepL H.n ρ s.heap vs args→RepK H.n ρ s.heap kvs kws →
  (∀ v s' ρ',Stp cx NoW ρ H s ρ' H' s'→Rep H'.n ρ' s'.heap v x→R (.ok (.ret v)) s')→codeAny cx.M A (.call (.ref f) ⟨vs,kvs⟩) R s
noncomputable def GL(cx:Cx)(n:Nat)(sc:Sc)(loc:Loc)(es:List Expr)(H:Hp)(xs:List V)(H':Hp):Prop :=
 (∀ pos env,(backTo pos (starEach es env)).all (fun p => !p.1)=true)∧(∀ env,es=[]∧xs=[]∧H'=H∨Ex2 fun e es'=>es=e::es'∧starEach (e::es') env=(false,eval e env)::starEach es' env) ∧
 ∀ {A env ρ s pos} {Q:List Value→Shared→Prop} {E},Cn cx n sc loc H A env ρ s→(∀ vs s' ρ',Stp cx NoW ρ H s ρ' H' s'→RepL H'.n ρ' s'.heap vs xs→Q vs s')→wpAny cx.M A (spliced (backTo pos (starEach es env))) Q E s
noncomputable def GKw(cx:Cx)(n:Nat)(sc:Sc)(loc:Loc)(ks:List Keyword)(H:Hp)(xs:List (Str×V))(H':Hp):Prop :=
 (∀ pos env,(backToKw pos (keywordEach ks env)).all (·.1.isSome)=true∧(backToKw pos (keywordEach ks env)).filterMap (·.1)=xs.map (·.1)) ∧
 ∀ {A env ρ s pos} {Q:List Value→Shared→Prop} {E},Cn cx n sc loc H A env ρ s→(∀ vs s' ρ',Stp cx NoW ρ H s ρ' H' s'→RepL H'.n ρ' s'.heap vs (xs.map (·.2))→Q vs s')→wpAny cx.M A (evalAll ((backToKw pos (keywordEach ks env)).map (·.2))) Q E s
noncomputable def GTs(cx:Cx)(n:Nat)(sc:Sc)(loc:Loc)(op:BoolOp)(es:List Expr)(H:Hp)(b:Bool)(H':Hp):Prop :=
 ∀ {A env ρ s} {Q:Bool→Shared→Prop} {E},Cn cx n sc loc H A env ρ s→(∀ s' ρ',Stp cx NoW ρ H s ρ' H' s'→Q b s')→wpAny cx.M A (allTrue op es env) Q E s
noncomputable def GBo(cx:Cx)(n:Nat)(sc:Sc)(loc:Loc)(op:BoolOp)(es:List Expr)(H:Hp)(x:V)(H':Hp):Prop :=
 ∀ {A env ρ s pos} {Q:Value→Shared→Prop} {E},Cn cx n sc loc H A env ρ s→(∀ v s' ρ',Stp cx NoW ρ H s ρ' H' s'→Rep H'.n ρ' s'.heap v x→Q v s')→wpAny cx.M A (boolOp pos op (evalEach es env)) Q E s
noncomputable def GIf(cx:Cx)(n:Nat)(sc:Sc)(loc:Loc)(ifs:List Expr)(H:Hp)(b:Bool)(H':Hp):Prop :=
 ∀ {A env ρ s} {Q:Bool→Shared→Prop} {E},Cn cx n sc loc H A env ρ s→(∀ s' ρ',Stp cx NoW ρ H s ρ' H' s'→Q b s') →
  wpAny cx.M A (forIn ifs true fun c r=>if r=true then do let ok ← isTrue c env (eval c env); pure (ForInStep.yield ok) else pure (ForInStep.yield r)) Q E s
noncomputable def GO(cx:Cx)(n:Nat)(sc:Sc)(loc:Loc)(a:Option Expr)(H:Hp)(l:Option Int)(H':Hp):Prop :=
 ∀ {A env ρ s} {Q:Value→Shared→Prop} {E},Cn cx n sc loc H A env ρ s→(∀ v s' ρ',Stp cx NoW ρ H s ρ' H' s'→IsPart v l→Q v s')→wpAny cx.M A (evalPart a env) Q E s
noncomputable def GA(cx:Cx)(n:Nat)(sc:Sc)(t:Expr)(v:V)(loc:Loc)(H:Hp)(loc':Loc)(H':Hp):Prop :=
 ∀ {A env ρ s u} {Q:Unit→Shared→Prop} {E},Cn cx n sc loc H A env ρ s→Rep H.n ρ s.heap u v→(∀ s' ρ',Stp cx (Wr env) ρ H s ρ' H' s'→Vars cx env H'.n ρ' s'.heap loc'→Q () s')→wpAny cx.M A (assign t env u) Q E s
noncomputable def GAs(cx:Cx)(n:Nat)(sc:Sc)(ts:List Expr)(v:V)(loc:Loc)(H:Hp)(loc':Loc)(H':Hp):Prop :=
 ∀ {A env ρ s u} {Q:Unit→Shared→Prop} {E},Cn cx n sc loc H A env ρ s→Rep H.n ρ s.heap u v→(∀ s' ρ',Stp cx (Wr env) ρ H s ρ' H' s'→Vars cx env H'.n ρ' s'.heap loc'→Q () s')→wpAny cx.M A (assignAll u ((assignEach ts env).map (·.2))) Q E s
theorem Stp.toks{cx ρ H s}{k:Nat}(W)(I:Inv cx ρ H s):Stp cx W ρ H s ρ H { s with toks:=k } :=
 Stp.grown W I (fun ι ι e=>e) rfl rfl
section
variable {cx:Cx} {A:Around} {env:Env} {s:Shared} {ρ:Nat→Addr} {H:Hp} {loc:Loc} {sc:Sc} {E:Value→Shared→Prop}
theorem s_Constant{c:Const}{k:Nat}{pos:Pos}{v:V}{Q:Value→Shared→Prop}(h:cst c=some v)(I:Inv cx ρ H s)
  (hQ:∀ u s',Stp cx NoW ρ H s ρ H s'→Rep H.n ρ s'.heap u v→Q u s'):wpAny cx.M A (eval (.Constant c k pos) env) Q E s:=by
 rw[eval_Constant]
 cases c with
 | none=>exact wpAny_pure (hQ _ _ (Stp.refl _ I) (Option.some.inj h ▸ .none))
 | bool b=>exact wpAny_pure (hQ _ _ (Stp.refl _ I) (Option.some.inj h ▸ .bool b))
 | int i=>exact fun ι ι t=>hQ _ _ (Stp.toks _ I) (Option.some.inj h ▸ .int _ _)
 | str x=>exact fun ι ι t=>hQ _ _ (Stp.toks _ I) (Option.some.inj h ▸ .str _ _)
 | _=>exact noS h
theorem debug_ne{x:Str}(h:¬ x=("__debug__":Str)):(x==("__debug__":Str))=false:=by simpa using h
theorem EnvOk.kind'(N:EnvOk cx env sc){x:Str}{k:NameKind}(h:sc.lookup x=some k)(hk:k ≠ .free):env.kindOf x=some k:=(N.names x k h).elim id fun q=>absurd q.1 hk
theorem s_load{pe:Pe}(P:PeOk pe cx){x:Str}{v:V}{Q:Value→Shared→Prop}(h:look pe sc loc x=some v)(N:EnvOk cx env sc)(I:Inv cx ρ H s)(X:Vars cx env H.n ρ s.heap loc)
  (hQ:∀ u,Rep H.n ρ s.heap u v→Q u s):wpAny cx.M A (loadName env x) Q E s:=by
 unfold look at h
 split at h
 ·first | contradiction | cases h
 ·rename_i hd
  generalize hk:sc.lookup x=k at h
  cases k with
  | none=>first | contradiction | cases h
  | some k =>
   cases k with
   | «local» =>
    obtain ⟨m,hn,hm⟩:=X.ns
    have hk':=N.kind' hk (by decide)
    obtain ⟨u,hu,r⟩:=hm x v h hk'
    exact wpAny_loadName_local N.kind hk' hn hu (hQ u r)
   | cell =>
    have hk':=N.kind' hk (by decide)
    obtain ⟨c,u,hc,hv,r⟩:=X.cell x v h (.inl hk')
    exact wpAny_loadName_cell N.kind hk' hc hv (hQ u r)
   | free =>
    have hk':=N.names x _ hk
    obtain ⟨c,u,hc,hv,r⟩:=X.cell x v h (hk'.elim .inr fun q => .inl q.2)
    rcases hk' with hk | ⟨_,hk⟩
    ·exact wpAny_loadName_free N.kind hk hc hv (hQ u r) (beq_false_of_ne fun q=>hd (.inr q))
    ·exact wpAny_loadName_cell N.kind hk hc hv (hQ u r)
   | globalImplicit =>
    obtain ⟨u,r,hl⟩:=P.glob h
    rw[loadName_read N.kind (N.kind' hk (by decide))]
    exact hl N.globals N.builtins I.keep (hQ u (r _ _ _))
   | _=>first | exact noS h | exact noB h | cases h
theorem look_dbg{pe:Pe}{x:Str}{v:V}(h:look pe sc loc x=some v):(x==("__debug__":Str))=false:=by
 unfold look at h
 split at h
 ·first | contradiction | cases h
 ·rename_i hd; exact debug_ne fun q=>hd (.inl q)
theorem s_Name{pe:Pe}(P:PeOk pe cx){x:Str}{pos:Pos}{v:V}{Q:Value→Shared→Prop}(h:look pe sc loc x=some v)(N:EnvOk cx env sc)(I:Inv cx ρ H s)(X:Vars cx env H.n ρ s.heap loc)
  (hQ:∀ u,Rep H.n ρ s.heap u v→Q u s):wpAny cx.M A (eval (.Name x pos) env) Q E s :=
 wpAny_Name (s_load P h N I X hQ) (look_dbg h)
end
end
section
theorem RepL.length{n ρ h vs xs}(r:RepL n ρ h vs xs):vs.length=xs.length:=by
 induction xs generalizing vs with
 | nil=>cases r; rfl
 | cons x xs ih=>cases r with | cons a b=>simp [ih b]
theorem RepL.append{n ρ h vs xs ws ys}(a:RepL n ρ h vs xs)(b:RepL n ρ h ws ys):RepL n ρ h (vs++ws) (xs++ys) :=
 RepL.ind (m:=fun vs xs ι=>RepL n ρ h (vs++ws) (xs++ys)) b (fun a ι ih => .cons a ih) a
theorem RepL.snoc{n ρ h vs xs v x}(r:RepL n ρ h vs xs)(q:Rep n ρ h v x):RepL n ρ h (vs++[v]) (xs++[x]):=r.append (.cons q .nil)
theorem RepL.get{n ρ h vs xs}(r:RepL n ρ h vs xs):∀ (i:Nat) {x},xs[i]? = some x→∃ v,vs[i]? = some v∧Rep n ρ h v x :=
 RepL.ind (m:=fun vs xs ι=>∀ (i:Nat) {x},xs[i]? = some x→∃ v,vs[i]? = some v∧Rep n ρ h v x) (fun ι ι e=>noS e)
  (fun {v x vs xs} a ι ih i=>by
   cases i with
   | zero=>exact fun e=>⟨v,rfl,Option.some.inj e▸a⟩
   | succ i=>exact fun e=>ih i e) r
theorem RepL.get'{n ρ h vs xs}(r:RepL n ρ h vs xs):∀ (i:Nat) {v},vs[i]? = some v→∃ x,xs[i]? = some x∧Rep n ρ h v x :=
 RepL.ind (m:=fun vs xs ι=>∀ (i:Nat) {v},vs[i]? = some v→∃ x,xs[i]? = some x∧Rep n ρ h v x) (fun ι ι e=>noS e)
  (fun {v x vs xs} a ι ih i=>by
   cases i with
   | zero=>exact fun e=>⟨x,rfl,Option.some.inj e▸a⟩
   | succ i=>exact fun e=>ih i e) r
theorem RepL.pick{n ρ h vs xs}(r:RepL n ρ h vs xs)(is:List Nat):RepL n ρ h (is.filterMap (vs[·]?)) (is.filterMap (xs[·]?)):=by
 induction is with
 | nil=>exact .nil
 | cons i is ih =>
  simp only[List.filterMap_cons]
  cases e:xs[i]? with
  | none =>
   have:vs[i]? = none:=by
    rw[List.getElem?_eq_none_iff] at e ⊢; rw[r.length]; exact e
   rw[this]; exact ih
  | some x =>
   obtain ⟨v,hv,q⟩:=r.get i e
   rw[hv]; exact .cons q ih
noncomputable def RepV(n:Nat)(ρ:Nat→Addr)(h:Heap)(v:Value):V→Prop
 | .none=>v = .none
 | .bool b=>v = .bool b
 | .int i=>∃ t,v = .int i t
 | .str x=>∃ t,v = .str x t
 | .tup xs=>Ex3 fun a vs k=>v = .ref a∧h.get? a=some { cls := .type "tuple",data := .seq vs k }∧RepL n ρ h vs.toList xs
 | .ref i=>i<n∧v = .ref (ρ i)
 | .view i=>i<n∧∃ a,v = .ref a∧h.get? a=some { cls := .type "dict_items",data := .fields #[.ref (ρ i)] }
 | .bm p x=>p.obj=true∧Ex2 fun a w=>v = .ref a∧h.get? a=some { cls := .type "builtin_function_or_method",data := .fields #[.builtin p.id,w] }∧Rep n ρ h w x
 | .mt f x=>Ex2 fun a w=>v = .ref a∧h.get? a=some { cls := .type "method",data := .fields #[.ref f,w] }∧Rep n ρ h w x
 | .bf b=>v=b.val
 | .fn a=>v = .ref a
theorem Rep.to{n ρ h v x}(r:Rep n ρ h v x):RepV n ρ h v x:=by
 cases r with
 | none=>exact rfl
 | bool b=>exact rfl
 | int i t=>exact ⟨t,rfl⟩
 | str s t=>exact ⟨t,rfl⟩
 | ref i hi=>exact ⟨hi,rfl⟩
 | fn a=>exact rfl
 | tup e q=>exact ⟨_,_,_,rfl,e,q⟩
 | bm hp e q=>exact ⟨hp,_,_,rfl,e,q⟩
 | bf b=>exact rfl
 | mt e q=>exact ⟨_,_,rfl,e,q⟩
 | view hi e=>exact ⟨hi,_,rfl,e⟩
theorem Rep.inv_none{n ρ h v}(r:Rep n ρ h v .none):v = .none:=r.to
theorem Rep.inv_bool{n ρ h v b}(r:Rep n ρ h v (.bool b)):v = .bool b:=r.to
theorem Rep.inv_int{n ρ h v i}(r:Rep n ρ h v (.int i)):∃ t,v = .int i t:=r.to
theorem Rep.inv_str{n ρ h v x}(r:Rep n ρ h v (.str x)):∃ t,v = .str x t:=r.to
theorem Rep.inv_tup{n ρ h v xs}(r:Rep n ρ h v (.tup xs)):Ex3 fun a vs k=>v = .ref a∧h.get? a=some { cls := .type "tuple",data := .seq vs k }∧RepL n ρ h vs.toList xs:=r.to
theorem Rep.inv_ref{n ρ h v i}(r:Rep n ρ h v (.ref i)):i<n∧v = .ref (ρ i):=r.to
theorem Rep.inv_view{n ρ h v i}(r:Rep n ρ h v (.view i)):i<n∧∃ a,v = .ref a∧h.get? a=some { cls := .type "dict_items",data := .fields #[.ref (ρ i)] }:=r.to
theorem Rep.inv_bm{n ρ h v p x}(r:Rep n ρ h v (.bm p x)):p.obj=true∧Ex2 fun a w=>v = .ref a∧h.get? a=some { cls := .type "builtin_function_or_method",data := .fields #[.builtin p.id,w] }∧Rep n ρ h w x:=r.to
theorem Rep.inv_mt{n ρ h v f x}(r:Rep n ρ h v (.mt f x)):Ex2 fun a w=>v = .ref a∧h.get? a=some { cls := .type "method",data := .fields #[.ref f,w] }∧Rep n ρ h w x:=r.to
theorem Rep.inv_bf{n ρ h v b}(r:Rep n ρ h v (.bf b)):v=b.val:=r.to
theorem Rep.inv_fn{n ρ h v a}(r:Rep n ρ h v (.fn a)):v = .ref a:=r.to
theorem lim_eq:lim=sizeLine:=by rw[sizeLine_eq]; rfl
theorem Inv.list{cx ρ H s}(I:Inv cx ρ H s){i:Nat}{xs:List V}(hi:i<H.n)(e:H.f i = .list xs):
  Ex2 fun vs k=>s.heap.get? (ρ i)=some { cls := .type "list",data := .seq vs k }∧RepL H.n ρ s.heap vs.toList xs:=by
 have:=I.objs i hi; rw[e] at this; exact this
theorem Inv.dict{cx ρ H s}(I:Inv cx ρ H s){i:Nat}{kvs:List (Str×V)}(hi:i<H.n)(e:H.f i = .dict kvs):
  ∃ ps:List (Str×Value),s.heap.DictOf (strKind cx.prog cx.w) (ρ i) ps∧ps.map (·.1)=kvs.map (·.1)∧RepL H.n ρ s.heap (ps.map (·.2)) (kvs.map (·.2)):=by
 have:=I.objs i hi; rw[e] at this; exact this
theorem isList_of{h:Heap}{a:Addr}{vs:Array Value}{k:Nat}(e:h.get? a=some { cls := .type "list",data := .seq vs k }):h.IsList a vs:=⟨_,e,rfl,k,rfl⟩
theorem size_of{n ρ h}{vs:Array Value}{xs:List V}(r:RepL n ρ h vs.toList xs):vs.size=xs.length:=by rw[← Array.length_toList]; exact r.length
theorem Inv.notSys{cx ρ H s}(I:Inv cx ρ H s)(_:HasSys cx){i:Nat}(hi:i<H.n):(ρ i==sysModules)=false:=by
 simp only[beq_eq_false_iff_ne]
 exact I.nsys i hi
theorem isEmpty_eq{α β:Type}{l:List α}{m:List β}(h:l.length=m.length):l.isEmpty=m.isEmpty:=by
 cases l <;> cases m <;> simp_all
theorem isEmpty_arr{α β:Type}{l:Array α}{m:List β}(h:l.size=m.length):l.isEmpty=m.isEmpty:=by
 cases m with
 | nil=>simp at h; simp [h]
 | cons x m =>
  simp only[List.isEmpty_cons]
  have:l.size≠0:=by rw[h]; simp
  simpa [Array.isEmpty] using this
theorem map_len{α β γ:Type}{l:List α}{m:List β}{f:α→γ}{g:β→γ}(h:l.map f=m.map g):l.length=m.length:=by
 have:=congrArg List.length h
 rwa [List.length_map,List.length_map] at this
section
variable {cx:Cx} {A:Around} {s:Shared} {ρ:Nat→Addr} {H:Hp} {E:Value→Shared→Prop}
theorem ite_some{c:Prop}[Decidable c]{α:Type}{a b:α}(h:(if c then some a else none)=some b):c∧a=b:=by
 by_cases hc:c
 ·rw[if_pos hc] at h; exact ⟨hc,Option.some.inj h⟩
 ·rw[if_neg hc] at h; first | contradiction | cases h
theorem le_line{k:Nat}(h:k≤lim):(k:Int)<2 ^ 63:=by unfold lim at h; trivial
theorem natAbs_small{y:Int}(h:0<y∧y<2 ^ 30):y.natAbs<2 ^ 30:=Int.natAbs_lt_natAbs_of_nonneg_of_lt (Int.le_of_lt h.1) h.2
theorem len_ne(x:Nat):((x:Int) != 0)=(x != 0):=by cases x <;> rfl
theorem s_truth{v:V}{u:Value}{b:Bool}{Q:Bool→Shared→Prop}(hg:HasSys cx)(h:truth H v=some b)(I:Inv cx ρ H s)(r:Rep H.n ρ s.heap u v)
  (hQ:∀ s',Stp cx NoW ρ H s ρ H s'→Q b s'):wpAny cx.M A (truthy u) Q E s:=by
 cases r with
 | none=>cases h; exact fun ι ι ι=>hQ _ (Stp.refl _ I)
 | bool c=>cases h; exact wpAny_truthy_bool (hQ _ (Stp.refl _ I))
 | int i t=>cases h; exact P.truthy_int (hQ _ (Stp.refl _ I))
 | str x t =>
  obtain ⟨hl,rfl⟩:=ite_some h
  exact P.truthy_str (Int.not_le.mpr (le_line hl)) (len_ne _▸hQ _ (Stp.toks _ I))
 | tup e q =>
  obtain ⟨hl,rfl⟩:=ite_some h
  exact truthy_tuple ⟨_,e,rfl,_,rfl⟩ (le_line (size_of q▸hl)) (isEmpty_arr (size_of q)▸hQ _ (Stp.toks _ I))
 | ref i hi =>
  have h:truthO (H.f i)=some b:=h
  generalize hf:H.f i=o at h
  cases o with
  | list xs =>
   obtain ⟨hl,rfl⟩:=ite_some h
   obtain ⟨vs,k,e,q⟩:=I.list hi hf
   exact wpAny_truthy_list (isList_of e) (le_line (size_of q▸hl)) (isEmpty_arr (size_of q)▸hQ _ (Stp.toks _ I))
  | dict kvs =>
   obtain ⟨hl,rfl⟩:=ite_some h
   obtain ⟨ps,e,hn,q⟩:=I.dict hi hf
   have hz:=map_len hn
   exact wpAny_truthy_dict (I.notSys hg hi) e (le_line (hz▸hl)) (isEmpty_eq hz▸hQ _ (Stp.toks _ I))
  | _=>first | exact noS h | exact noB h | cases h
 | _=>first | exact noS h | exact noB h | cases h
theorem Stp.newList{vs:Array Value}{xs:List V}(I:Inv cx ρ H s)(r:RepL H.n ρ s.heap vs.toList xs):
  Stp cx NoW ρ H s (fun j=>if j=H.n then s.heap.objs.size else ρ j) (H.alloc (.list xs)) { s with heap:=s.heap.push { cls := .type "list",data := .seq vs } }:=by
 refine Stp.new _ I (get?_size _) I.neS (fun ι ι e=>Heap.get?_push_of_some _ e) ⟨vs,0,Heap.get?_push_size _ rfl,r.mono ⟨Nat.le_succ _,fun i hi=>if_neg (Nat.ne_of_lt hi),fun a o e ι=>Heap.get?_push_of_some _ e⟩⟩ rfl rfl
theorem rep_new{n:Nat}{ρ:Nat→Addr}{h:Heap}{a:Addr}:Rep (n+1) (fun j=>if j=n then a else ρ j) h (.ref a) (.ref n):=by
 have:=Rep.ref (n:=n+1) (ρ:=fun j=>if j=n then a else ρ j) (h:=h) n (Nat.lt_succ_self n)
 rwa [if_pos rfl] at this
theorem s_newList{vs:List Value}{xs:List V}{Q:Value→Shared→Prop}(I:Inv cx ρ H s)(r:RepL H.n ρ s.heap vs xs)(hl:xs.length≤lim)
  (hQ:∀ v s' ρ',Stp cx NoW ρ H s ρ' (H.alloc (.list xs)) s'→Rep (H.n+1) ρ' s'.heap v (.ref H.n)→Q v s'):wpAny cx.M A (newList vs) Q E s:=by
 refine wpAny_newObj_type (hQ _ _ _ (Stp.newList I (by simpa using r)) rep_new) ?_
 show vs.toArray.size≤sizeLine
 rw[List.size_toArray,r.length,← lim_eq]; exact hl
theorem s_newTuple{vs:List Value}{xs:List V}{Q:Value→Shared→Prop}(I:Inv cx ρ H s)(r:RepL H.n ρ s.heap vs xs)(hl:xs.length≤lim)
  (hQ:∀ v s',Stp cx NoW ρ H s ρ H s'→Rep H.n ρ s'.heap v (.tup xs)→Q v s'):wpAny cx.M A (newTuple vs) Q E s:=by
 refine wpAny_newObj_type (hQ _ _ (Stp.grown _ I (fun ι ι e=>Heap.get?_push_of_some _ e) rfl rfl) (.tup (Heap.get?_push_size _ rfl) ?_)) ?_
 ·refine RepL.mono ⟨Nat.le_refl _,fun ι ι=>rfl,fun a o e ι=>Heap.get?_push_of_some _ e⟩ (by simpa using r)
 ·show vs.toArray.size≤sizeLine
  rw[List.size_toArray,r.length,← lim_eq]; exact hl
end
structure Bin (H:Hp) (op:Operator) (a b x:V) (H':Hp):Prop where
 go:∀ {cx:Cx} {A:Around} {s:Shared} {ρ:Nat→Addr} {E:Value→Shared→Prop} {u v:Value} {Q:Value→Shared→Prop},Inv cx ρ H s→Rep H.n ρ s.heap u a→Rep H.n ρ s.heap v b→(∀ v s' ρ',Stp cx NoW ρ H s ρ' H' s'→Rep H'.n ρ' s'.heap v x→Q v s')→wpAny cx.M A (binaryOp op u v) Q E s
 aug:augOk a=true→∀ {cx:Cx} {A:Around} {s:Shared} {ρ:Nat→Addr} {E:Value→Shared→Prop} {u v:Value} {Q:Value→Shared→Prop},Inv cx ρ H s→Rep H.n ρ s.heap u a→Rep H.n ρ s.heap v b→(∀ w s',Stp cx NoW ρ H s ρ H' s'→Rep H'.n ρ s'.heap w x→Q w s')→wpAny cx.M A (inplaceOp op u v) Q E s
theorem Bin.addS{H:Hp}{x y:Str}(hl:x.length+y.length≤lim):Bin H .Add (.str x) (.str y) (.str (x++y)) H where
 go:=fun I ra rb hQ=>by
  obtain ⟨t,rfl⟩:=ra.inv_str; obtain ⟨t',rfl⟩:=rb.inv_str
  exact SB.add (fun t' k=>hQ _ _ _ (Stp.toks _ I) (.str _ _)) (lim_eq▸hl)
 aug:=fun _ {cx A s ρ E u v Q} I ra rb hQ=>by
  obtain ⟨t,rfl⟩:=ra.inv_str; obtain ⟨t',rfl⟩:=rb.inv_str
  exact SB.iadd (fun t' k=>hQ _ _ (Stp.toks _ I) (.str _ _)) (lim_eq▸hl)
theorem Bin.addI{H:Hp}{x y:Int} : Bin H .Add (.int x) (.int y) (.int (x+y)) H where
 go:=fun I ra rb hQ=>by
  obtain ⟨t,rfl⟩:=ra.inv_int; obtain ⟨t',rfl⟩:=rb.inv_int
  exact wpAny_add_int (hQ _ _ _ (Stp.toks _ I) (.int _ _))
 aug:=fun _ {cx A s ρ E u v Q} I ra rb hQ=>by
  obtain ⟨t,rfl⟩:=ra.inv_int; obtain ⟨t',rfl⟩:=rb.inv_int
  exact AutoIntOps.iadd_0 (hQ _ _ (Stp.toks _ I) (.int _ _))
theorem Bin.subI{H:Hp}{x y:Int} : Bin H .Sub (.int x) (.int y) (.int (x-y)) H where
 go:=fun I ra rb hQ=>by
  obtain ⟨t,rfl⟩:=ra.inv_int; obtain ⟨t',rfl⟩:=rb.inv_int
  exact P.sub_int (hQ _ _ _ (Stp.toks _ I) (.int _ _))
 aug:=fun _ {cx A s ρ E u v Q} I ra rb hQ=>by
  obtain ⟨t,rfl⟩:=ra.inv_int; obtain ⟨t',rfl⟩:=rb.inv_int
  exact AutoIntOps.isub_0 (hQ _ _ (Stp.toks _ I) (.int _ _))
theorem Bin.divI{H:Hp}{x y:Int}(hl:0<y∧y<2 ^ 30):Bin H .FloorDiv (.int x) (.int y) (.int (x/y)) H where
 go:=fun I ra rb hQ=>by
  obtain ⟨t,rfl⟩:=ra.inv_int; obtain ⟨t',rfl⟩:=rb.inv_int
  exact floordiv_int (Int.ne_of_gt hl.1) (Int.fdiv_eq_ediv_of_nonneg _ (Int.le_of_lt hl.1)▸hQ _ _ _ (Stp.toks _ I) (.int _ _)) (.inl (PyProof.noPylong_small (natAbs_small hl)))
 aug:=fun _ {cx A s ρ E u v Q} I ra rb hQ=>by
  obtain ⟨t,rfl⟩:=ra.inv_int; obtain ⟨t',rfl⟩:=rb.inv_int
  exact AutoIntOps.ifloordiv_1 (by simp; trivial) (by rw[PyProof.noPylong_small (natAbs_small hl)]; simp) (Int.fdiv_eq_ediv_of_nonneg _ (Int.le_of_lt hl.1)▸hQ _ _ (Stp.toks _ I) (.int _ _))
theorem Bin.modI{H:Hp}{x y:Int}(hl:0<y∧y<2 ^ 30):Bin H .Mod (.int x) (.int y) (.int (x % y)) H where
 go:=fun I ra rb hQ=>by
  obtain ⟨t,rfl⟩:=ra.inv_int; obtain ⟨t',rfl⟩:=rb.inv_int
  exact mod_int' (Int.ne_of_gt hl.1) (Int.fmod_eq_emod_of_nonneg _ (Int.le_of_lt hl.1)▸hQ _ _ _ (Stp.toks _ I) (.int _ _))
 aug:=fun _ {cx A s ρ E u v Q} I ra rb hQ=>by
  obtain ⟨t,rfl⟩:=ra.inv_int; obtain ⟨t',rfl⟩:=rb.inv_int
  exact AutoIntOps.imod_1 (by simp; trivial) (Int.fmod_eq_emod_of_nonneg _ (Int.le_of_lt hl.1)▸hQ _ _ (Stp.toks _ I) (.int _ _))
theorem Bin.addL{H:Hp}{i j:Nat}{xs ys:List V}{H':Hp}(hi:H.f i = .list xs)(hj:H.f j = .list ys)(hl:xs.length+ys.length≤lim)(e:H.alloc (.list (xs++ys))=H'):Bin H .Add (.ref i) (.ref j) (.ref H.n) H' where
 go:=fun I ra rb hQ=>by
  obtain ⟨ia,rfl⟩:=ra.inv_ref; obtain ⟨ib,rfl⟩:=rb.inv_ref
  obtain ⟨vs,k,e1,q⟩:=I.list ia hi
  obtain ⟨ws,k',e2,q'⟩:=I.list ib hj
  subst e
  exact P.add_list e1 e2 (hQ _ _ _ (Stp.newList I (by rw[Array.toList_append]; exact q.append q')) rep_new) (by rw[size_of q,size_of q',← lim_eq]; exact hl)
 aug:=fun h=>noB h
theorem Bin.powI{H:Hp}{y:Int}(hl:0≤y∧y<20):Bin H .Pow (.int 2) (.int y) (.int (2 ^ y.toNat)) H where
 go:=fun I ra rb hQ=>by
  obtain ⟨t,rfl⟩:=ra.inv_int; obtain ⟨t',rfl⟩:=rb.inv_int
  refine pow_int hl.1 ?_ (hQ _ _ _ (Stp.toks _ I) (.int _ _))
  have e2:Builtin.Int.intBits 2=2:=by decide+kernel
  rw[e2]; trivial
 aug:=fun _ {cx A s ρ E u v Q} I ra rb hQ=>by
  obtain ⟨t,rfl⟩:=ra.inv_int; obtain ⟨t',rfl⟩:=rb.inv_int
  by_cases h0:y=0
  ·subst h0
   exact AutoIntOps.ipow_0 (by decide) rfl (hQ _ _ (Stp.toks _ I) (.int _ _))
  ·have e2:Builtin.Int.intBits 2=2:=by decide+kernel
   exact AutoIntOps.ipow_4 hl.1 (by simpa using h0) (by decide) (by decide) (by
    rw[e2]
    refine fun q=>absurd (of_decide_eq_true q) ?_
    have e3:(bitsLine:Int)≥100:=by decide+kernel
    trivial) (hQ _ _ (Stp.toks _ I) (.int _ _))
end
section
section
variable {cx:Cx} {A:Around} {s:Shared} {ρ:Nat→Addr} {H:Hp} {E:Value→Shared→Prop}
theorem isTuple_of{h:Heap}{a:Addr}{vs:Array Value}{k:Nat}(e:h.get? a=some { cls := .type "tuple",data := .seq vs k }):h.IsTuple a vs:=⟨_,e,rfl,k,rfl⟩
theorem map_some{α β:Type}{f:α→β}{o:Option α}{b:β}(h:o.map f=some b):∃ a,o=some a∧f a=b:=Option.map_eq_some_iff.mp h
theorem strsOf_rep{n ρ h}{xs:List V}:∀ {l:List Str} {vs:List Value},strsOf xs=some l→RepL n ρ h vs xs→∃ ts:List (Str×Tok),ts.map (·.1)=l∧vs=ts.map fun p=>Value.str p.1 p.2:=by
 induction xs with
 | nil=>intro l vs e r; cases r; exact ⟨[],Option.some.inj e,rfl⟩
 | cons x xs ih =>
  intro l vs e r
  cases r with | cons a b =>
  cases x with
  | str x =>
   obtain ⟨l',e',rfl⟩:=map_some e
   obtain ⟨ts,rfl,rfl⟩:=ih e' b
   obtain ⟨t,rfl⟩:=a.inv_str
   exact ⟨(x,t)::ts,rfl,rfl⟩
  | _=>exact noS e
theorem is_str(x:Str)(t:Tok):(strKind cx.prog cx.w).is x (.str x t)=true:=by simp [PySem.strKind,Value.isStrOf]
theorem in_list(neg:Bool){i:Nat}{xs:List V}{v:Value}{l:Bool}{Q:Value→Shared→Prop}(e:Value→Bool)(hi:i<H.n)(hf:H.f i = .list xs)(I:Inv cx ρ H s)
  (h:∀ vs:List Value,RepL H.n ρ s.heap vs xs→(∀ y∈vs,EqAt A.in1 s y v (e y))∧vs.any e=l) (hQ:Q (.bool (if neg then !l else l)) s):wpAny cx.M A (compareOp (if neg then .NotIn else .In) v (.ref (ρ i))) Q E s:=by
 obtain ⟨vs,k,ho,q⟩:=I.list hi hf
 obtain ⟨h1,h2⟩:=h _ q
 have hm:∀ y,y∈vs→EqAt A.in1 s y v (e y):=fun y hy=>h1 y (Array.mem_toList_iff.mpr hy)
 have hk:vs.any e=l:=by rw[← Array.any_toList]; exact h2
 cases neg
 ·exact in_listAt _ (isList_of ho) hm (hk▸hQ)
 ·exact notIn_listAt _ (isList_of ho) hm (hk▸hQ)
noncomputable def strEq(x:Str):Value→Bool
 | .str z _=>z==x
 | _=>false
theorem any_strs(x:Str)(ts:List (Str×Tok)):(ts.map fun p=>Value.str p.1 p.2).any (strEq x)=(ts.map (·.1)).contains x:=by
 rw[List.any_map,List.contains_eq_any_beq,List.any_map]
 congr 1; funext p; exact Bool.beq_comm
structure InV (H:Hp) (a b:V) (r:Bool):Prop where
 go:∀ (neg:Bool) {cx:Cx} {A:Around} {s:Shared} {ρ:Nat→Addr} {E:Value→Shared→Prop} {u v:Value} {Q:Value→Shared→Prop},HasSys cx→Inv cx ρ H s→Rep H.n ρ s.heap u a→Rep H.n ρ s.heap v b→(∀ s',Stp cx NoW ρ H s ρ H s'→Q (.bool (if neg then !r else r)) s')→wpAny cx.M A (compareOp (if neg then .NotIn else .In) u v) Q E s
theorem InV.str{H:Hp}{x y:Str} : InV H (.str x) (.str y) (Txt.contains y x):=⟨fun neg {cx A s ρ E u v Q} hg I ra rb hQ=>by
 obtain ⟨t,rfl⟩:=ra.inv_str; obtain ⟨t',rfl⟩:=rb.inv_str
 cases neg
 ·exact SB.contains (hQ _ (Stp.refl _ I))
 ·exact SB.notContains (hQ _ (Stp.refl _ I))⟩
theorem InV.set{H:Hp}{x:Str}{i:Nat}{ks:List Str}(hf:H.f i = .set ks):InV H (.str x) (.ref i) (ks.contains x):=⟨fun neg {cx A s ρ E u v Q} hg I ra rb hQ=>by
 obtain ⟨t,rfl⟩:=ra.inv_str; obtain ⟨hi,rfl⟩:=rb.inv_ref
 have hS:=I.objs _ hi; rw[hf] at hS
 cases neg
 ·exact wpAny_inSet_of (is_str _ t) rfl hS.1.set (hQ _ (Stp.toks _ I))
 ·exact wpAny_notInSet_of (is_str _ t) rfl hS.1.set (hQ _ (Stp.toks _ I))⟩
theorem InV.lstr{H:Hp}{x:Str}{i:Nat}{xs:List V}{l:List Str}(hf:H.f i = .list xs)(hl:strsOf xs=some l):InV H (.str x) (.ref i) (l.contains x):=⟨fun neg {cx A s ρ E u v Q} hg I ra rb hQ=>by
 obtain ⟨t,rfl⟩:=ra.inv_str; obtain ⟨hi,rfl⟩:=rb.inv_ref
 refine in_list neg (strEq x) hi hf I (fun vs q => ?_) (hQ _ (Stp.refl _ I))
 obtain ⟨ts,rfl,rfl⟩:=strsOf_rep hl q
 refine ⟨fun y hy => ?_,any_strs _ _⟩
 obtain ⟨p,_,rfl⟩:=List.mem_map.mp hy
 exact .str_str _ _ _ _⟩
theorem isEmpty_len{α:Type}(l:List α):l.isEmpty=(l.length==0):=by cases l <;> rfl
theorem Rep.noneOr{n ρ h v x}(r:Rep n ρ h v x):(isNone x=true∧v = .none)∨(isNone x=false∧v ≠ .none):=by
 cases r with
 | none=>exact .inl ⟨rfl,rfl⟩
 | bf b=>exact .inr ⟨rfl,by obtain ⟨t,n,_⟩:=b; cases t <;> exact nofun⟩
 | _=>exact .inr ⟨rfl,nofun⟩
structure EqV (H:Hp) (a b:V) (r:Bool):Prop where
 go:∀ (neg:Bool) {cx:Cx} {A:Around} {s:Shared} {ρ:Nat→Addr} {E:Value→Shared→Prop} {u v:Value} {Q:Value→Shared→Prop},HasSys cx→A.units+20<cLine→Inv cx ρ H s→Rep H.n ρ s.heap u a→Rep H.n ρ s.heap v b→Q (.bool (if neg then !r else r)) s→wpAny cx.M A (compareOp (if neg then .NotEq else .Eq) u v) Q E s
theorem EqV.str{H:Hp}{x y:Str} : EqV H (.str x) (.str y) (x==y):=⟨fun neg {cx A s ρ E u v Q} hg hu I ra rb hQ=>by
 obtain ⟨t,rfl⟩:=ra.inv_str; obtain ⟨t',rfl⟩:=rb.inv_str
 cases neg
 ·exact (RcAt.str_str _ _ _ _) _ _ _ _ hQ
 ·exact (RcNeAt.str_str _ _ _ _) _ _ _ _ hQ⟩
theorem EqV.int{H:Hp}{x y:Int} : EqV H (.int x) (.int y) (x==y):=⟨fun neg {cx A s ρ E u v Q} hg hu I ra rb hQ=>by
 obtain ⟨t,rfl⟩:=ra.inv_int; obtain ⟨t',rfl⟩:=rb.inv_int
 cases neg
 ·exact (RcAt.int_int _ _ _ _) _ _ _ _ hQ
 ·exact (RcNeAt.int_int _ _ _ _) _ _ _ _ hQ⟩
theorem EqV.list0{H:Hp}{i j:Nat}{xs:List V}(hi:H.f i = .list xs)(hj:H.f j = .list []):EqV H (.ref i) (.ref j) xs.isEmpty:=⟨fun neg {cx A s ρ E u v Q} hg hu I ra rb hQ=>by
 obtain ⟨ia,rfl⟩:=ra.inv_ref; obtain ⟨ib,rfl⟩:=rb.inv_ref
 obtain ⟨vs,k,e,q⟩:=I.list ia hi
 obtain ⟨ws,k',e',q'⟩:=I.list ib hj
 have hu':A.units<cLine:=Nat.lt_of_le_of_lt (Nat.le_add_right _ _) hu
 have hz':ws.size=0:=size_of q'
 have hz:=size_of q
 by_cases h0:vs.size=0
 ·have r:(List.range vs.size).all (fun ι=>false)=xs.isEmpty:=by rw[isEmpty_len,← hz,h0]; rfl
  have f:∀ (j:Nat) (h1:j<vs.size) (h2:j<ws.size),EqAt A.in1 s vs[j] ws[j] ((fun ι=>false) j):=fun j h=>absurd h (by rw[h0]; exact Nat.not_lt_zero j)
  have g1:=RcAt.lists (isList_of e) (isList_of e') (h0.trans hz'.symm) hu' f
  have g2:=RcNeAt.lists (isList_of e) (isList_of e') (h0.trans hz'.symm) hu' f
  rw[r] at g1 g2
  cases neg
  ·exact g1 _ _ _ _ hQ
  ·exact g2 _ _ _ _ hQ
 ·have hne:(vs.size != ws.size)=true:=bne_iff_ne.mpr (by rw[hz']; exact h0)
  have hx:xs.isEmpty=false:=(isEmpty_len _).trans (beq_false_of_ne (hz▸h0))
  rw[hx] at hQ
  cases neg
  ·exact RcAt.lists_lengths (isList_of e) (isList_of e') hne hu' _ _ _ _ hQ
  ·exact RcNeAt.lists_lengths (isList_of e) (isList_of e') hne hu' _ _ _ _ hQ⟩
structure Cmp (H:Hp) (op:CmpOp) (a b:V) (r:Bool):Prop where
 go:∀ {cx:Cx} {A:Around} {s:Shared} {ρ:Nat→Addr} {E:Value→Shared→Prop} {u v:Value} {Q:Value→Shared→Prop},HasSys cx→A.units+20<cLine→Inv cx ρ H s→Rep H.n ρ s.heap u a→Rep H.n ρ s.heap v b→(∀ s',Stp cx NoW ρ H s ρ H s'→Q (.bool r) s')→wpAny cx.M A (compareOp op u v) Q E s
theorem Cmp.eq{H:Hp}{a b:V}{r:Bool}(h:EqV H a b r):Cmp H .Eq a b r:=⟨fun {cx A s ρ E u v Q} hg hu I ra rb hQ=>by
 have q:=hQ _ (Stp.refl _ I)
 exact h.go false hg hu I ra rb q⟩
theorem Cmp.ne{H:Hp}{a b:V}{r:Bool}(h:EqV H a b r):Cmp H .NotEq a b (!r):=⟨fun {cx A s ρ E u v Q} hg hu I ra rb hQ=>by
 have q:=hQ _ (Stp.refl _ I)
 exact h.go true hg hu I ra rb q⟩
theorem Cmp.lt{H:Hp}{x y:Int} : Cmp H .Lt (.int x) (.int y) (decide (x<y)):=⟨fun {cx A s ρ E u v Q} hg hu I ra rb hQ=>by
 have q:=hQ _ (Stp.refl _ I)
 obtain ⟨t,rfl⟩:=ra.inv_int; obtain ⟨t',rfl⟩:=rb.inv_int; exact lt_int q⟩
theorem Cmp.gt{H:Hp}{x y:Int} : Cmp H .Gt (.int x) (.int y) (decide (x>y)):=⟨fun {cx A s ρ E u v Q} hg hu I ra rb hQ=>by
 have q:=hQ _ (Stp.refl _ I)
 obtain ⟨t,rfl⟩:=ra.inv_int; obtain ⟨t',rfl⟩:=rb.inv_int; exact P.gt_int q⟩
theorem Cmp.is{H:Hp}{a:V} : Cmp H .Is a .none (isNone a):=⟨fun {cx A s ρ E u v Q} hg hu I ra rb hQ=>by
 have q:=hQ _ (Stp.refl _ I)
 cases rb.inv_none
 rcases ra.noneOr with ⟨e,rfl⟩ | ⟨e,hn⟩ <;> rw[e] at q
 ·exact wpAny_is_self rfl q
 ·exact is_none_ne hn q⟩
theorem Cmp.isnt{H:Hp}{a:V} : Cmp H .IsNot a .none (!isNone a):=⟨fun {cx A s ρ E u v Q} hg hu I ra rb hQ=>by
 have q:=hQ _ (Stp.refl _ I)
 cases rb.inv_none
 rcases ra.noneOr with ⟨e,rfl⟩ | ⟨e,hn⟩ <;> rw[e] at q
 ·exact wpAny_isNot_self rfl q
 ·exact isnot_none_ne hn q⟩
theorem Cmp.inn{H:Hp}{a b:V}{r:Bool}(h:InV H a b r):Cmp H .In a b r:=⟨fun {cx A s ρ E u v Q} hg hu I ra rb hQ=>by
 exact h.go false hg I ra rb hQ⟩
theorem Cmp.nin{H:Hp}{a b:V}{r:Bool}(h:InV H a b r):Cmp H .NotIn a b (!r):=⟨fun {cx A s ρ E u v Q} hg hu I ra rb hQ=>by
 exact h.go true hg I ra rb hQ⟩
end
end
section
section
variable {pe:Pe} {cx:Cx} {n:Nat} {sc:Sc} {loc:Loc} {H H1 H2 H3:Hp} {u v w x:V} {a b c:Expr} {p:Pos} {t:Bool}
theorem Cn.units{A env ρ s}(C:Cn cx (n+1) sc loc H A env ρ s):A.units+20<cLine:=Nat.lt_of_lt_of_le (Nat.lt_of_le_of_lt (Nat.add_le_add_left (Nat.le_mul_of_pos_right 20 (Nat.succ_pos n)) _) C.ar.units) (by decide)
theorem wpAny_IfExp{M:Model}{A:Around}{E:Value→Shared→Prop}{s:Shared}{env:Env}{Q:Value→Shared→Prop}
  (h:wpAny M A (isTrue c env (eval c env)) (fun t s₁=>wpAny M A (eval (bif t then a else b) env) Q E s₁) E s):wpAny M A (eval (.IfExp c a b p) env) Q E s:=by
 rw[arm_eval_IfExp]
 refine wpAny_bind (wpAny_mono h (fun t s₁ h₁ => ?_) fun ι ι e=>e)
 cases t <;> exact h₁
theorem e_Const{k:Const}{j:Nat}(h:cst k=some v):GE cx (n+1) sc loc (.Constant k j p) H v H:=fun C hQ=>s_Constant h C.inv fun u s' S q=>hQ u s' _ S q
theorem e_Name(P:PeOk pe cx){x:Str}(h:look pe sc loc x=some v):GE cx (n+1) sc loc (.Name x p) H v H:=fun C hQ=>s_Name P h C.en C.inv C.vars fun u q=>hQ u _ _ (Stp.refl _ C.inv) q
theorem e_Bin{op:Operator}(h1:GE cx n sc loc a H u H1)(h2:GE cx n sc loc b H1 w H2)(h3:Bin H2 op u w v H3):GE cx (n+1) sc loc (.BinOp a op b p) H v H3:=fun C hQ =>
 wpAny_BinOp (h1 C.low fun ι ι ι S1 r1=>h2 (C.low.step S1) fun ι ι ι S2 r2=>h3.go S2.inv (S2.rep S1.inv r1) r2 fun w s3 ρ3 S3 r3=>hQ w s3 ρ3 ((S1.trans S2).trans S3) r3)
theorem e_If(h1:GT cx n sc loc c H t H1)(h2:GE cx n sc loc (bif t then a else b) H1 v H2):GE cx (n+1) sc loc (.IfExp c a b p) H v H2:=fun C hQ =>
 wpAny_IfExp (h1 C.low fun ι ι S1=>h2 (C.low.step S1) fun ι ι ι S2 r2=>hQ _ _ _ (S1.trans S2) r2)
theorem noMarks{op:CmpOp}{b:Expr}(h:isSetE b=false):behindInMarks op b=false:=by
 cases b <;> first | rfl | contradiction
theorem e_Cmp{op:CmpOp}(P:PeOk pe cx)(hs:isSetE b=false)(h1:GE cx n sc loc a H u H1)(h2:GE cx n sc loc b H1 w H2)(h3:Cmp H2 op u w t):GE cx (n+1) sc loc (.Compare a [op] [b] p) H (.bool t) H2:=fun C hQ =>
 wpAny_Compare1 (h1 C.low fun ι ι ι S1 r1=>h2 (C.low.step S1) fun ι ι ι S2 r2=>h3.go P.sys C.units S2.inv (S2.rep S1.inv r1) r2 fun s3 S3=>hQ _ s3 _ ((S1.trans S2).trans S3) (.bool _)) (noMarks hs)
theorem t_Cmp{op:CmpOp}(P:PeOk pe cx)(hs:isSetE b=false)(h1:GE cx n sc loc a H u H1)(h2:GE cx n sc loc b H1 w H2)(h3:Cmp H2 op u w t):GT cx (n+1) sc loc (.Compare a [op] [b] p) H t H2:=fun C hQ =>
 wpAny_isTrue_Compare1 (h1 C.low fun ι ι ι S1 r1=>h2 (C.low.step S1) fun ι ι ι S2 r2=>h3.go P.sys C.units S2.inv (S2.rep S1.inv r1) r2 fun s3 S3=>wpAny_truthy_bool (hQ s3 _ ((S1.trans S2).trans S3))) (noMarks hs)
theorem e_Neg{k:Int}(h1:GE cx n sc loc a H (.int k) H1):GE cx (n+1) sc loc (.UnaryOp .USub a p) H (.int (-k)) H1:=fun C hQ=>by
 rw[arm_eval_UnaryOp]
 refine wpAny_bind (h1 C.low fun ι ι ι S1 r1=>wpAny_bind (wpAny_standAt (wpAny_holding ?_)))
 obtain ⟨t,rfl⟩:=r1.inv_int
 exact P.neg_int (hQ _ _ _ (S1.trans (Stp.toks _ S1.inv)) (.int _ _))
theorem t_Not(h1:GT cx n sc loc a H t H1):GT cx (n+1) sc loc (.UnaryOp .Not a p) H (!t) H1:=fun C hQ=>by
 rw[arm_isTrue_UnaryOp]
 exact wpAny_bind (h1 C.low fun ι ι S1=>wpAny_pure (hQ _ _ S1))
theorem isTrue_plain{env:Env}(h:plainT a=true)(m:Sem Value):isTrue a env m=(do let v ← m; standAt a.pos; holding [v] (truthy v)):=by
 cases a with
 | UnaryOp op x q=>cases op <;> first | rfl | contradiction
 | _=>first | rfl | contradiction
theorem t_Gen(P:PeOk pe cx)(hp:plainT a=true)(h1:GE cx n sc loc a H u H1)(h2:truth H1 u=some t):GT cx (n+1) sc loc a H t H1:=fun C hQ=>by
 rw[isTrue_plain hp]
 exact wpAny_bind (h1 C.low fun ι ι ι S1 r1=>wpAny_bind (wpAny_standAt (wpAny_holding (s_truth P.sys h2 S1.inv r1 fun s2 S2=>hQ s2 _ (S1.trans S2)))))
theorem ts_nil{op:BoolOp}:GTs cx n sc loc op [] H (op == .And) H:=fun C hQ=>by
 rw[arm_allTrue_nil]; exact wpAny_pure (hQ _ _ (Stp.refl _ C.inv))
theorem test_eq{op:BoolOp}{env:Env}{es:List Expr}:allTrue op (a::es) env=(do let t ← isTrue a env (eval a env); bif t==(op == .Or) then pure t else allTrue op es env):=by
 rw[arm_allTrue_cons]
 congr; funext t
 cases op <;> cases t <;> rfl
theorem ts_stop{op:BoolOp}{es:List Expr}(h1:GT cx n sc loc a H t H1)(h3:(t==(op == .Or))=true):GTs cx n sc loc op (a::es) H t H1:=fun C hQ=>by
 rw[test_eq]
 refine wpAny_bind (h1 C fun ι ι S1 => ?_)
 rw[h3]; exact wpAny_pure (hQ _ _ S1)
theorem ts_go{op:BoolOp}{es:List Expr}{r:Bool}(h1:GT cx n sc loc a H t H1)(h3:(t==(op == .Or))=false)(h4:GTs cx n sc loc op es H1 r H2):GTs cx n sc loc op (a::es) H r H2:=fun C hQ=>by
 rw[test_eq]
 refine wpAny_bind (h1 C fun ι ι S1 => ?_)
 rw[h3]; exact h4 (C.step S1) fun s' ρ' S3=>hQ s' ρ' (S1.trans S3)
theorem t_Bool{op:BoolOp}{vs:List Expr}(h:GTs cx n sc loc op vs H t H1):GT cx (n+1) sc loc (.BoolOp op vs p) H t H1:=fun C hQ=>by
 rw[arm_isTrue_BoolOp]; exact h C.low hQ
theorem gi_nil:GIf cx n sc loc [] H true H:=fun C hQ=>wpAny_pure (hQ _ _ (Stp.refl _ C.inv))
theorem tests_false{A:Around}{E}{s:Shared}{env:Env}{Q:Bool→Shared→Prop}(h:Q false s):∀ (ifs:List Expr),
  wpAny cx.M A (forIn ifs false fun c r=>if r=true then do let ok ← isTrue c env (eval c env); pure (ForInStep.yield ok) else pure (ForInStep.yield r)) Q E s
 | []=>wpAny_pure h
 | c::cs=>by
  rw[List.forIn_cons,if_neg Bool.false_ne_true]
  exact wpAny_bind (wpAny_pure (tests_false h cs))
theorem gi_false{cs:List Expr}(h1:GT cx n sc loc c H false H1):GIf cx n sc loc (c::cs) H false H1:=fun C hQ=>by
 rw[List.forIn_cons,if_pos rfl]
 exact wpAny_bind (wpAny_bind (h1 C fun s1 ρ1 S1=>wpAny_pure (tests_false (hQ s1 ρ1 S1) cs)))
theorem gi_true{cs:List Expr}(h1:GT cx n sc loc c H true H1)(h2:GIf cx n sc loc cs H1 t H2):GIf cx n sc loc (c::cs) H t H2:=fun C hQ=>by
 rw[List.forIn_cons,if_pos rfl]
 exact wpAny_bind (wpAny_bind (h1 C fun s1 ρ1 S1=>wpAny_pure (h2 (C.step S1) fun s2 ρ2 S2=>hQ s2 ρ2 (S1.trans S2))))
end
end
section
theorem wpAny_keepMarked{α:Type}{M:Model}{A:Around}{E:Value→Shared→Prop}{s:Shared}{vs:List Value}{m:Sem α}{Q:α→Shared→Prop}(h:wpAny M A m Q E s):wpAny M A (m.keep vs) Q E s :=
 fun Γ p hΓ=>by rw[Sem.wp_keep]; exact h Γ p hΓ
noncomputable def Kpr(cx:Cx)(fv:Value)(s:Shared):Prop:=∀ {A:Around} {Q:Keeper→Shared→Prop} {E:Value→Shared→Prop},(∀ k,Q k s)→wpAny cx.M A (keeperOf fv) Q E s
theorem wpAny_ite2{α:Type}{M:Model}{A:Around}{s:Shared}{E:Value→Shared→Prop}{Q:α→Shared→Prop}{p:Prop}[Decidable p]{x m:Sem α}(hx:wpAny M A x Q E s)(hm:wpAny M A m Q E s):wpAny M A (if p then x else m) Q E s:=by
 by_cases h:p
 ·rw[if_pos h]; exact hx
 ·rw[if_neg h]; exact hm
theorem s_callWith{cx:Cx}{A:Around}{s:Shared}{E:Value→Shared→Prop}{pos:Pos}{fv:Value}{first:List Value}{args:List (Bool×Sem Value)}{kws:List (Option Str×Sem Value)}{Q:Value→Shared→Prop}
  (h:wpAny cx.M A (evalArgs fv true args kws) (fun a s₁=>Kpr cx fv s₁∧wpAny cx.M A (call fv (first++a.pos) a.kw) Q E s₁) E s):wpAny cx.M A (callWith pos fv first args kws) Q E s:=by
 unfold callWith
 refine wpAny_bind (wpAny_holding (wpAny_mono h (fun a s₁ h₁ => ?_) fun ι ι e=>e))
 refine wpAny_bind (wpAny_standAt ?_)
 refine wpAny_bind (h₁.1 fun k => ?_)
 have fin:∀ (v:Value) (s₂:Shared),Q v s₂→wpAny cx.M A (do holding [v] point; pure v) Q E s₂:=fun v s₂ h₂=>wpAny_bind (wpAny_holding (wpAny_point (wpAny_pure h₂)))
 have c:=wpAny_mono h₁.2 fin fun ι ι e=>e
 generalize (args.any (·.1)||kws.any (·.1.isNone))=b
 cases k <;> cases b <;> first | exact wpAny_bind c | exact wpAny_bind (wpAny_keepMarked c) | exact wpAny_bind (wpAny_operate' c) | exact wpAny_ite2 (wpAny_bind c) (wpAny_bind (wpAny_keepMarked c))
section
variable {pe:Pe} {cx:Cx} {n:Nat} {sc:Sc} {loc:Loc} {H H1 H2:Hp} {u:V} {a:Expr} {es:List Expr} {xs:List V} {ks:List Keyword} {kx:List (Str×V)}
theorem starEach_plain{e:Expr}{es:List Expr}{env:Env}(h:isStar e=false):starEach (e::es) env=(false,eval e env)::starEach es env:=by
 cases e <;> first | rfl | contradiction
theorem l_nil:GL cx n sc loc [] H [] H:=⟨fun ι ι=>rfl,fun ι => .inl ⟨rfl,rfl,rfl⟩,fun C hQ=>Calls.spliced_nil (hQ _ _ _ (Stp.refl _ C.inv) .nil)⟩
theorem l_cons(hs:isStar a=false)(h1:GE cx n sc loc a H u H1)(h2:GL cx n sc loc es H1 xs H2):GL cx n sc loc (a::es) H (u::xs) H2:=by
 refine ⟨fun pos env => ?_,fun env => .inr ⟨_,_,rfl,starEach_plain hs⟩,fun {A env ρ s pos Q E} C hQ => ?_⟩
 ·rw[starEach_plain hs]; exact h2.1 pos env
 ·rw[starEach_plain hs]
  exact Calls.spliced_cons (h1 C fun ι ι ι S1 r1=>h2.2.2 (C.step S1) fun vs s2 ρ2 S2 r2=>hQ _ _ _ (S1.trans S2) (.cons (S2.rep S1.inv r1) r2))
theorem k_nil:GKw cx n sc loc [] H [] H:=⟨fun ι ι=>⟨rfl,rfl⟩,fun C hQ=>wpAny_pure (hQ _ _ _ (Stp.refl _ C.inv) .nil)⟩
theorem zip_fst{α β:Type}:∀ {l:List α} {m:List β},l.length=m.length→(l.zip m).map (·.1)=l
 | [],[],_=>rfl
 | a::l,b::m,h=>by simp [zip_fst (l:=l) (m:=m) (by simpa using h)]
theorem zip_snd{α β:Type}:∀ {l:List α} {m:List β},l.length=m.length→(l.zip m).map (·.2)=m
 | [],[],_=>rfl
 | a::l,b::m,h=>by simp [zip_snd (l:=l) (m:=m) (by simpa using h)]
theorem evalArgs_sound{pos:Pos}{A:Around}{env:Env}{s ρ}{f:Value}{Q:Args→Shared→Prop}{E}(h1:GL cx n sc loc es H xs H1)(h2:GKw cx n sc loc ks H1 kx H2)(C:Cn cx n sc loc H A env ρ s)
  (hQ:∀ a s' ρ',Stp cx NoW ρ H s ρ' H2 s'→RepL H2.n ρ' s'.heap a.pos xs→RepK H2.n ρ' s'.heap a.kw kx→Q a s'):wpAny cx.M A (evalArgs f true (backTo pos (starEach es env)) (backToKw pos (keywordEach ks env))) Q E s:=by
 obtain ⟨nm1,nm2⟩:=h2.1 pos env
 have go:∀ (vs:List Value) (s1:Shared) (ρ1:Nat→Addr) (S1:Stp cx NoW ρ H s ρ1 H1 s1) (r1:RepL H1.n ρ1 s1.heap vs xs),
   wpAny cx.M A (evalAll ((backToKw pos (keywordEach ks env)).map (·.2))) (fun ks' s₂=>Q ⟨vs,((backToKw pos (keywordEach ks env)).filterMap (·.1)).zip ks'⟩ s₂) E s1:=fun vs s1 ρ1 S1 r1 =>
  h2.2 (C.step S1) fun ws s2 ρ2 S2 r2=>by
   have hl:(kx.map (·.1)).length=ws.length:=by rw[r2.length,List.length_map,List.length_map]
   rw[nm2]
   exact hQ _ _ _ (S1.trans S2) (S2.repL S1.inv r1) ⟨zip_fst hl,by rw[zip_snd hl]; exact r2⟩
 rcases h1.2.1 env with ⟨rfl,rfl,rfl⟩ | ⟨e,es',rfl,he⟩
 ·exact evalArgs_kw_nil nm1 (go [] s ρ (Stp.refl _ C.inv) .nil)
 ·have sp:=h1.2.2 (pos:=pos) (E:=E) C go
  rw[he] at sp ⊢
  exact evalArgs_kw nm1 sp
end
end
section
section
variable {pe:Pe} {cx:Cx} {n:Nat} {sc:Sc}
theorem xs_sound_nil{loc H}:GXs cx n sc [] loc H .next loc H:=fun C hQ=>wpAny_execs_nil (hQ _ _ _ (Stp.refl _ C.inv) C.vars .next)
theorem xs_sound_cons{st:Stmt}{body:List Stmt}{loc loc1 loc':Loc}{H H1 H2:Hp}{fl:Fl}(h1:GX cx n sc st loc H .next loc1 H1)(h2:GXs cx n sc body loc1 H1 fl loc' H2):GXs cx n sc (st::body) loc H fl loc' H2:=fun C hQ=>by
 refine wpAny_execs_cons (h1 C fun f s1 ρ1 S1 X1 r1 => ?_)
 cases r1
 exact h2 (C.to S1.inv X1) fun f s2 ρ2 S2 X2 r2=>hQ _ _ _ (S1.transW S2 (X1.notW S2)) X2 r2
theorem xs_sound_stop{st:Stmt}{body:List Stmt}{loc loc':Loc}{H H1:Hp}{fl:Fl}(h1:GX cx n sc st loc H fl loc' H1)(h2:isNext fl=false):GXs cx n sc (st::body) loc H fl loc' H1:=fun C hQ=>by
 refine wpAny_execs_cons (h1 C fun f s1 ρ1 S1 X1 r1 => ?_)
 cases r1 with
 | next=>first | contradiction | cases h2
 | brk=>exact hQ _ _ _ S1 X1 .brk
 | cont=>exact hQ _ _ _ S1 X1 .cont
 | ret q=>exact hQ _ _ _ S1 X1 (.ret q)
theorem bindL_other{kindOf:Str→Option NameKind}:∀ {binds:List (Str×Value)} {m:Str→Option Value} {x:Str},x∉binds.map (·.1)→bindL kindOf binds m x=m x
 | [],_,_,_=>rfl
 | (y,v)::r,m,x,h=>by
  have h1:x≠y:=fun e=>h (by simp [e])
  have h2:x∉r.map (·.1):=fun e=>h (by simp at e ⊢; exact .inr e)
  unfold bindL
  rw[bindL_other h2]
  split
  ·exact if_neg h1
  ·rfl
theorem bindL_get{kindOf:Str→Option NameKind}{binds:List (Str×Value)}:∀ {m:Str→Option Value} {x:Str} {u:Value},(binds.map (·.1)).Nodup→(x,u)∈binds→kindOf x=some .local→bindL kindOf binds m x=some u:=by
 induction binds with
 | nil=>exact fun ι h=>nomatch h
 | cons p r ih =>
  intro m x u hn hm hk
  rw[List.map_cons,List.nodup_cons] at hn
  unfold bindL
  rcases List.mem_cons.mp hm with e | hm
  ·first | contradiction | cases e
   rw[bindL_other hn.1,if_pos hk]; exact if_pos rfl
  ·exact ih hn.2 hm hk
theorem bindC_other{kindOf:Str→Option NameKind}{binds:List (Str×Value)}:∀ {m:Str→Option Value} {x:Str},x∉binds.map (·.1)→bindC kindOf binds m x=m x:=by
 induction binds with
 | nil=>exact fun ι=>rfl
 | cons p r ih =>
  intro m x h
  have h1:x≠p.1:=fun e=>h (e ▸ .head _)
  unfold bindC
  rw[ih fun e=>h (.tail _ e)]
  split
  ·rfl
  ·exact if_neg h1
theorem bindC_get{kindOf:Str→Option NameKind}{binds:List (Str×Value)}:∀ {m:Str→Option Value} {x:Str} {u:Value},(binds.map (·.1)).Nodup→(x,u)∈binds→kindOf x≠some .local→bindC kindOf binds m x=some u:=by
 induction binds with
 | nil=>exact fun ι h=>nomatch h
 | cons p r ih =>
  intro m x u hn hm hk
  rw[List.map_cons,List.nodup_cons] at hn
  unfold bindC
  rcases List.mem_cons.mp hm with e | hm
  ·first | contradiction | cases e
   rw[bindC_other hn.1,if_neg hk]; exact if_pos rfl
  ·exact ih hn.2 hm hk
theorem cellsFrom_mem{x:Str}{names:List (Str×NameKind)}:∀ {k:Nat} {acc:List (Str×Addr)},((x,.cell)∈names∨x∈acc.map (·.1))→x∈(cellsFrom k names acc).map (·.1):=by
 induction names with
 | nil=>exact fun h=>h.elim (fun q=>nomatch q) id
 | cons p r ih =>
  intro k acc h
  obtain ⟨y,kd⟩:=p
  unfold cellsFrom
  split
  ·refine ih ?_
   rcases h with h | h
   ·rcases List.mem_cons.mp h with e | h
    ·cases e; exact .inr (by simp)
    ·exact .inl h
   ·exact .inr (by simp at h ⊢; exact .inr h)
  ·rename_i hk
   refine ih ?_
   rcases h with h | h
   ·rcases List.mem_cons.mp h with e | h
    ·cases e; exact absurd rfl hk
    ·exact .inl h
   ·exact .inr h
theorem lookup_of_mem{α:Type}{x:Str}{l:List (Str×α)}:x∈l.map (·.1)→∃ c,l.lookup x=some c:=by
 induction l with
 | nil=>exact fun h=>nomatch h
 | cons p r ih =>
  intro h
  rw[List.lookup_cons]
  cases hb:x==p.1 with
  | true=>exact ⟨p.2,rfl⟩
  | false =>
   refine ih ?_
   rw[List.map_cons,List.mem_cons] at h
   rcases h with e | h
   ·rw[e] at hb; simp at hb
   ·exact h
theorem lookup_map{x:Str}{v:V}(g:Src→V){ps:List (Str×Src)}:(ps.map fun p=>(p.1,g p.2)).lookup x=some v→Ex2 fun (j:Nat) (p:Str×Src)=>ps[j]? = some p∧p.1=x∧v=g p.2:=by
 induction ps with
 | nil=>exact fun h=>noS h
 | cons p ps ih =>
  intro h
  rw[List.map_cons,List.lookup_cons] at h
  cases hb:x==p.1 with
  | true=>rw[hb] at h; exact ⟨0,p,rfl,(beq_iff_eq.mp hb).symm,(Option.some.inj h).symm⟩
  | false =>
   rw[hb] at h
   obtain ⟨j,q,h1,h2,h3⟩:=ih h
   exact ⟨j+1,q,h1,h2,h3⟩
theorem Srcs.length{g vs kvs}{ps:List (Str×Src)}{us:List Value}(h:Srcs g vs kvs ps us):us.length=ps.length:=by
 induction h with
 | nil=>rfl
 | cons _ _ ih=>exact congrArg (· + 1) ih
theorem Srcs.get{g vs kvs}{ps:List (Str×Src)}{us:List Value}(h:Srcs g vs kvs ps us):∀ (j:Nat) {p u},ps[j]? = some p→us[j]? = some u→SrcV g vs kvs p.2 u:=by
 induction h with
 | nil=>exact fun j p u e=>noS e
 | cons a _ ih =>
  intro j p u e1 e2
  cases j with
  | zero=>exact Option.some.inj e1▸Option.some.inj e2▸a
  | succ j=>exact ih j e1 e2
theorem run_sound(P:PeOk pe cx){f:Addr}{args:List V}{kws:List (Str×V)}{H H':Hp}{x:V}{fd:FuncData}{ps:List (Str×Src)}{body:List Stmt}{fl:Fl}{loc':Loc}(hfd:pe.fn f=some fd)(hps:pe.sig f args.length (kws.map (·.1)) ps)(hbody:fd.body = .stmts body)(hsc:fd.scope.names=sc)
  (h1:GXs cx n sc body (ps.map fun p=>(p.1,p.2.get args (kws.map (·.2)))) H fl loc' H') (h2:flV fl=some x):GRun cx n f args kws H x H':=by
 intro A s ρ vs kvs R a1 I ra rk hQ
 subst hsc
 have FO:=P.fn hfd
 have SO:=P.sig hfd hps
 obtain ⟨o,ho,hd⟩:=FO.obj
 refine codeAny_call_function (by have:=a1.depth; simp only[recursionLimit]; trivial) (I.keep f o ho) hd FO.cor FO.gen hbody (let ⟨c,o,vs,t,e1,e2,e3,e4⟩:=FO.code; ⟨c,o,vs,t,e1,I.keep _ _ e2,e3,e4⟩) ?_
 refine SO.bind I.keep (by rw[ra.length]) rk.names fun us hsrc => ?_
 have hus:=hsrc.length
 have hz1:((ps.map (·.1)).zip us).map (·.1)=ps.map (·.1):=zip_fst (by simp [hus])
 rw[FO.clo]
 have hcell:∀ {y},fd.scope.names.lookup y=some .cell→∀ k,((cellsFrom k fd.scope.names []).lookup y).isSome=true:=fun {y} hy k=>by
  obtain ⟨c,hc⟩:=lookup_of_mem (cellsFrom_mem (k:=k) (acc:=[]) (.inl (mem_of_lookup hy)))
  rw[hc]; rfl
 refine wpAny_newFunctionEnv_cells FO.kind (fun y hy => ?_) fun env he s1 C => ?_
 ·have hy':y.1∈ps.map (·.1):=by rw[← hz1]; exact List.mem_map_of_mem hy
  obtain ⟨p,hp,e⟩:=List.mem_map.mp hy'
  rw[← e]
  rcases SO.kinds p hp with q | q
  ·exact .inl q
  ·exact .inr ⟨q,hcell q _⟩
 ·have hk:∀ b o,s.heap.get? b=some o→s1.heap.get? b=some o:=C.toInCall.keep
  have hL:env.locals=s.heap.objs.size:=by rw[he]; rfl
  obtain ⟨h₁,tk,hs1⟩:=C.toInCall.same
  have S0:Stp cx NoW ρ H s ρ H s1:=Stp.grown _ I hk (by rw[hs1]) (by rw[hs1])
  have hgn:∀ a,s.heap.objs.size≤a→cx.g.get? a=none:=fun a ha=>by
   cases e:cx.g.get? a with
   | none=>rfl
   | some o=>exact absurd (Heap.lt_size (I.keep a o e)) (Nat.not_lt.mpr ha)
  have hkd:∀ y,env.kindOf y=fd.scope.names.lookup y:=fun y=>by rw[he]; rfl
  have hcl:∀ y c,env.cells.lookup y=some c→s.heap.objs.size<c:=fun y c e=>by
   have:=C.above y c (mem_of_lookup e); rw[hL] at this; exact this
  have N:EnvOk cx env fd.scope.names:=⟨by rw[he]; exact FO.kind,fun y k e => .inl (by rw[hkd]; exact e),by rw[he]; exact FO.glo,by rw[he]; exact FO.bui,⟨_,by rw[he]; exact FO.code⟩,fun c P q e=>by rw[he]; exact FO.lam c P q e⟩
  have hnd:(((ps.map (·.1)).zip us).map (·.1)).Nodup:=by rw[hz1]; exact SO.nodup
  have hval:∀ y v,(ps.map fun p=>(p.1,p.2.get args (kws.map (·.2)))).lookup y=some v→∃ u,(y,u)∈(ps.map (·.1)).zip us∧Rep H.n ρ s1.heap u v:=fun y v e=>by
   obtain ⟨j,p,hj,rfl,rfl⟩:=lookup_map (fun q=>q.get args (kws.map (·.2))) e
   have hj':j<ps.length:=(List.getElem?_eq_some_iff.mp hj).1
   have hju:us[j]? = some us[j]:=List.getElem?_eq_getElem (by trivial)
   refine ⟨us[j],?_,?_⟩
   ·refine List.mem_iff_getElem?.mpr ⟨j,?_⟩
    rw[List.getElem?_zip_eq_some]
    exact ⟨by simp [hj],hju⟩
   ·have hsv:=hsrc.get j hj hju
    obtain ⟨pn,src⟩:=p
    cases src with
    | arg i =>
     obtain ⟨y,hy,q⟩:=ra.get' i hsv
     show Rep _ _ _ _ (args.getD i .none)
     rw[List.getD_eq_getElem?_getD,hy]; exact S0.rep I q
    | kw i =>
     obtain ⟨y,hy,q⟩:=rk.vals.get' i hsv
     show Rep _ _ _ _ ((kws.map (·.2)).getD i .none)
     rw[List.getD_eq_getElem?_getD,hy]; exact S0.rep I q
    | dflt v=>exact hsv _ _ _ fun b o e=>hk b o (I.keep b o e)
  have X:Vars cx env H.n ρ s1.heap (ps.map fun p=>(p.1,p.2.get args (kws.map (·.2)))):=by
   refine ⟨⟨_,C.toInCall.ns,fun y v e k => ?_⟩,fun y v e k => ?_,fun i hi q => ?_,fun y c e i hi q => ?_,fun y c e=>⟨⟨_,C.cell y c e⟩,?_,?_⟩,fun y e => ?_,fun y z c e1 e2=>name_of_addr C.apart (mem_of_lookup e1) (mem_of_lookup e2),hgn _ (by rw[hL]; exact Nat.le_refl _)⟩
   ·obtain ⟨u,hu,q⟩:=hval y v e
    exact ⟨u,bindL_get hnd hu k,q⟩
   ·obtain ⟨u,hu,q⟩:=hval y v e
    have hnl:env.kindOf y≠some .local:=by rcases k with k | k <;> rw[k] <;> simp
    have hyk:fd.scope.names.lookup y=some .cell:=by
     obtain ⟨p,hp,e⟩:=List.mem_map.mp (show y∈ps.map (·.1) from by rw[← hz1]; exact List.mem_map_of_mem (f:=(·.1)) hu)
     rcases SO.kinds p hp with q | q
     ·rw[e] at q; rw[hkd] at hnl; exact absurd q hnl
     ·rw[e] at q; exact q
    obtain ⟨c,hc⟩:=Option.isSome_iff_exists.mp (hcell hyk (s.heap.objs.size+1))
    have hc':env.cells.lookup y=some c:=by rw[he]; exact hc
    exact ⟨c,u,hc',by have:=C.cell y c hc'; rwa [bindC_get hnd hu hnl] at this,q⟩
   ·have:=I.lt hi; rw[q,hL] at this; exact Nat.lt_irrefl _ this
   ·have hlt:=I.lt hi; rw[q] at hlt; exact Nat.lt_irrefl _ (Nat.lt_trans (hcl y c e) hlt)
   ·rw[hL]; exact Nat.ne_of_gt (hcl y c e)
   ·exact hgn _ (Nat.le_of_lt (hcl y c e))
   ·obtain ⟨c,hc⟩:=Option.isSome_iff_exists.mp (hcell (by rw[← hkd]; exact e) (s.heap.objs.size+1))
    exact ⟨c,by rw[he]; exact hc⟩
  refine ⟨P.noLimit.keeps fun b o e=>hk b o (I.keep b o e),codeAny_func ?_⟩
  have ar:Ar n (A.deeper env):=⟨a1.handled,by have:=a1.depth; show A.depth+1+4*n<1000; trivial,by have:=a1.units; show A.units+3+20*n<9900; trivial⟩
  refine h1 ⟨ar,N,S0.inv,X⟩ fun fw s2 ρ2 S2 X2 r2 => ?_
  have S:Stp cx NoW ρ H s ρ2 H' s2:=⟨S2.inv,S2.le,S2.agr,fun i h1 h2=>(by
   cases e:s.heap.get? (ρ2 i) with
   | none=>rfl
   | some o=>have:=S2.fresh i h1 h2; rw[hk _ _ e] at this; first | contradiction | cases this),fun a o e hm ι=>S2.ext a o (hk a o e) hm fun w=>(by
   have hlt:=Heap.lt_size e
   rcases w with w | ⟨y,w⟩
   ·rw[w,hL] at hlt; exact Nat.lt_irrefl _ hlt
   ·exact Nat.lt_irrefl _ (Nat.lt_trans (hcl y a w) hlt)),fun g x e=>S2.gx g x (by rw[hs1]; exact e)⟩
  cases r2 with
  | next=>cases h2; exact hQ _ _ _ S .none
  | ret q=>cases h2; exact hQ _ _ _ S q
  | brk=>first | contradiction | cases h2
  | cont=>first | contradiction | cases h2
end
end
section
theorem lookup_ne{α:Type}{p:Str×α}{l:List (Str×α)}{y:Str}(h:(y==p.1)=false):(p::l).lookup y=l.lookup y:=by
 rw[List.lookup_cons,h]
theorem setL_eq{p:Str×V}{loc:Loc}{x:Str}{v:V}:setL (p::loc) x v=if p.1=x then (x,v)::loc else p::setL loc x v:=rfl
theorem lookup_setL{loc:Loc}{x y:Str}{v:V}:(setL loc x v).lookup y=if y=x then some v else loc.lookup y:=by
 induction loc with
 | nil =>
  by_cases h:y=x
  ·rw[h,if_pos rfl]; exact List.lookup_cons_self
  ·rw[if_neg h]; exact lookup_ne (beq_false_of_ne h)
 | cons p loc ih =>
  rw[setL_eq]
  by_cases hz:p.1=x
  ·rw[if_pos hz]
   by_cases h:y=x
   ·rw[h,if_pos rfl]; exact List.lookup_cons_self
   ·rw[if_neg h,lookup_ne (beq_false_of_ne h),lookup_ne (beq_false_of_ne (hz▸h))]
  ·rw[if_neg hz]
   by_cases h:y=p.1
   ·rw[if_neg (h▸hz),h,List.lookup_cons_self]; exact List.lookup_cons_self.symm
   ·rw[lookup_ne (beq_false_of_ne h),lookup_ne (beq_false_of_ne h),ih]
theorem length_setL(loc:Loc)(x:Str)(v:V):loc.length≤(setL loc x v).length∧(setL loc x v).length≤loc.length+1∧(loc.lookup x=none→(setL loc x v).length=loc.length+1):=by
 induction loc with
 | nil=>exact ⟨Nat.zero_le _,Nat.le_refl _,fun ι=>rfl⟩
 | cons p loc ih =>
  rw[setL_eq]
  by_cases hz:p.1=x
  ·rw[if_pos hz]
   exact ⟨Nat.le_refl _,Nat.le_succ _,fun h=>by rw[List.lookup_cons,beq_iff_eq.mpr hz.symm] at h; exact noS h.symm⟩
  ·rw[if_neg hz]
   exact ⟨Nat.succ_le_succ ih.1,Nat.succ_le_succ ih.2.1,fun h=>congrArg (· + 1) (ih.2.2 (by rw[lookup_ne (beq_false_of_ne fun q=>hz q.symm)] at h; exact h))⟩
noncomputable def dObj(es:Array DictEntry)(k:Nat):Obj:={ cls := .type "dict",data := .dict es k }
theorem noRefKey{es:Array DictEntry}(hk:StrKeys es):es.any (·.refKey)=false:=by
 rw[Array.any_eq_false']; intro e he; obtain ⟨n,t,h⟩:=hk e he; simp [DictEntry.refKey,h]
theorem lookIn_of{es:Array DictEntry}{k:Nat}(hk:StrKeys es)(name:Str):lookIn name (dObj es k)=some (nsFind es name):=by
 unfold lookIn dObj nsFind findBy
 dsimp only
 rw[← Array.find?_toList]
 cases e:es.toList.find? (·.key.isStr name) with
 | some en=>rfl
 | none =>
  rw[Array.any_toList,noRefKey hk]; rfl
section
variable {cx:Cx} {A:Around} {s:Shared} {ρ:Nat→Addr} {H:Hp} {E:Value→Shared→Prop}
theorem Inv.inst(I:Inv cx ρ H s){i C d:Nat}(hi:i<H.n)(e:H.f i = .inst C d):d<H.n∧s.heap.get? (ρ i)=some (instObj C (ρ d)):=by
 have:=I.objs i hi; rw[e] at this; exact this
theorem Inv.ns(I:Inv cx ρ H s){d:Nat}{kvs:List (Str×V)}(hd:d<H.n)(e:H.f d = .ns kvs):
  Ex2 fun es k=>s.heap.get? (ρ d)=some (dObj es k)∧StrKeys es∧es.size≤kvs.length∧(∀ x v,kvs.lookup x=some v→∃ u,nsFind es x=some u∧Rep H.n ρ s.heap u v)∧∀ x,kvs.lookup x=none→nsFind es x=none:=by
 have:=I.objs d hd; rw[e] at this; exact this
theorem instAt_of{h:Heap}{x C dx:Addr}{es:Array DictEntry}{k:Nat}(e:h.get? x=some (instObj C dx))(e':h.get? dx=some (dObj es k)):InstAt h x (instObj C dx) C (some (dObj es k)) :=
 ⟨e,rfl,rfl,e'⟩
set_option tactic.hygienic true in
theorem handed_rep{n:Nat}{ρ:Nat→Addr}{h:Heap}{u:Value}{x:V}(r:Rep n ρ h u x):handedIn u=true:=by
 cases r <;> first | rfl | skip
 rename_i b; exact b.ok
theorem findObj_value{C:Addr}{es:Array DictEntry}{k:Nat}{name:Str}{m:Option Addr}{u:Value}(c:ClsOk cx C name m)(hk:StrKeys es)(hu:nsFind es name=some u):
  findObj cx.K C (some (dObj es k)) name=some (.value u):=by
 obtain ⟨cd,hcd,hdict⟩:=c.cd
 unfold findObj
 rw[hcd,Option.bind_some,c.hf,Option.bind_some]
 have own:W.ownOf cd (some (dObj es k)) name=some (some u):=by
  unfold W.ownOf
  rw[if_pos hdict]
  show lookIn name (dObj es k)=_
  rw[lookIn_of hk,hu]
 cases m with
 | none=>simp only[Option.map_none,Option.bind_some,own]
 | some f =>
  obtain ⟨_,h2,h3⟩:=c.fn f rfl
  simp only[Option.map_some,h2,Option.bind_some,h3,own]
theorem findObj_bind{C:Addr}{es:Array DictEntry}{k:Nat}{name:Str}{f:Addr}(c:ClsOk cx C name (some f))(hk:StrKeys es)(hu:nsFind es name=none):
  findObj cx.K C (some (dObj es k)) name=some (.bind (.builtin "function.__get__") (.ref f)):=by
 obtain ⟨cd,hcd,hdict⟩:=c.cd
 unfold findObj
 rw[hcd,Option.bind_some,c.hf,Option.bind_some]
 have own:W.ownOf cd (some (dObj es k)) name=some none:=by
  unfold W.ownOf
  rw[if_pos hdict]
  show lookIn name (dObj es k)=_
  rw[lookIn_of hk,hu]
 obtain ⟨_,h2,h3⟩:=c.fn f rfl
 simp only[Option.map_some,h2,Option.bind_some,h3,own,c.cop,Bool.false_and,Bool.false_eq_true,if_false]
theorem s_getInst{pe:Pe}(P:PeOk pe cx){i C d:Nat}{kvs:List (Str×V)}{name:Str}{m:Option Addr}{x:V}{expr:Bool}{Q:Value→Shared→Prop}
  (hi:i<H.n) (e:H.f i = .inst C d) (ed:H.f d = .ns kvs) (hc:pe.cls C name=some m) (hx:(kvs.lookup name).or (m.map fun f=>V.mt f (.ref i))=some x) (I:Inv cx ρ H s)
  (hQ:∀ v s',Stp cx NoW ρ H s ρ H s'→Rep H.n ρ s'.heap v x→Q v s'):wpAny cx.M A (getAttr (.ref (ρ i)) name expr) Q E s:=by
 obtain ⟨hd,hx1⟩:=I.inst hi e
 obtain ⟨es,k,hd1,hk,_,h1,h2⟩:=I.ns hd ed
 have c:=P.cls hc
 have X:cx.K.In s.heap:=P.kin.keeps I.keep
 have J:=instAt_of hx1 hd1
 cases hv:kvs.lookup name with
 | some v =>
  rw[hv] at hx
  cases hx
  obtain ⟨u,hu,ru⟩:=h1 _ _ hv
  exact get_value X J c.hga (findObj_value c hk hu) (handed_rep ru) (hQ _ _ (Stp.toks _ I) ru)
 | none =>
  rw[hv] at hx
  cases m with
  | none=>first | contradiction | cases hx
  | some f =>
   cases hx
   have hu:=h2 _ hv
   refine get_bind X J c.hga (findObj_bind c hk hu) c.hk ?_
   have X':cx.K.In ({ s with toks:=s.toks+1 }:Shared).heap:=X
   refine wpAny_call (fn_get X' (c.fn f rfl).1 ?_)
   refine wpAny_of_eq (handedOut_of rfl) (hQ _ _ (Stp.grown _ I (fun ι ι e=>Heap.get?_push_of_some _ e) rfl rfl) (.mt (Heap.get?_push_size _ rfl) (.ref i hi)))
end
end
section
theorem putName_spec{es:Array DictEntry}{k:Nat}(hk:StrKeys es)(name:Str)(hash:Int)(t:Tok)(v:Value):
  Ex2 fun es' k'=>Obj.putName name hash (.str name t) v (dObj es k)=dObj es' k'∧StrKeys es'∧es'.size≤es.size+1∧(nsFind es name≠none→es'.size=es.size)∧∀ x,nsFind es' x=if x=name then some v else nsFind es x:=by
 cases hi:es.findIdx? (·.key.isStr name) with
 | some i =>
  refine ⟨es.modify i fun e=>{ e with val:=v },k,by simp only[Obj.putName_eq,Obj.putNameByArray,dObj,hi],hk.modify _ _,by simp,fun ι=>by simp,fun x => ?_⟩
  exact findBy_modify (fun n v=>v.isStr n) Value.isStr_inj es name x v i hi
 | none =>
  refine ⟨es.push ⟨hash,.str name t,v⟩,k+1,by simp only[Obj.putName_eq,Obj.putNameByArray,dObj,hi],hk.push _ _ _ _,by simp,fun h=>absurd ?_ h,fun x => ?_⟩
  ·unfold nsFind
   rw[findBy_of_findIdx?,hi]
  ·exact findBy_push (fun n v=>v.isStr n) es name x _ _ v (fun y=>by
    show (name==y)=decide (y=name)
    by_cases h:y=name
    ·subst h; simp
    ·have:¬ name=y:=fun e=>h e.symm
     simp [h,this]) hi
section
variable {cx:Cx} {A:Around} {s:Shared} {ρ:Nat→Addr} {H:Hp} {E:Value→Shared→Prop}
theorem s_setInst{pe:Pe}(P:PeOk pe cx){i C d:Nat}{kvs:List (Str×V)}{name:Str}{m:Option Addr}{x:V}{v:Value}{Q:Unit→Shared→Prop}
  (hi:i<H.n) (e:H.f i = .inst C d) (ed:H.f d = .ns kvs) (hc:pe.cls C name=some m) (hl:kvs.length<1000) (I:Inv cx ρ H s) (rv:Rep H.n ρ s.heap v x)
  (hQ:∀ s',Stp cx NoW ρ H s ρ (H.put d (.ns (setL kvs name x))) s'→Q () s'):wpAny cx.M A (setAttr (.ref (ρ i)) name v) Q E s:=by
 obtain ⟨hd,hx1⟩:=I.inst hi e
 obtain ⟨es,k,hd1,hk,hsz,h1,h2⟩:=I.ns hd ed
 have c:=P.cls hc
 have X:cx.K.In s.heap:=P.kin.keeps I.keep
 have J:=instAt_of hx1 hd1
 obtain ⟨cd,hcd,hdict⟩:=c.cd
 refine set_plain X J c.hsa ?_
 have ht:takerIn cx.K C name=some none:=by
  unfold takerIn
  rw[c.hf,Option.bind_some]
  cases m with
  | none=>rfl
  | some f=>show (takesIn cx.K (.ref f)).map _=_; rw[(c.fn f rfl).2.2]; rfl
 have X':cx.K.In ({ s with toks:=s.toks+1 }:Shared).heap:=X
 refine osa_open (s:={ s with toks:=s.toks+1 }) X' J c.over ht fun b => ?_
 obtain ⟨es',k',hp,hk',hz',hz'',hf'⟩:=putName_spec (k:=k) hk name (PyData.keyHash cx.w.params name) (s.toks+1) v
 refine wpAny_bind (wpAny_pure (wpAny_bind (wpAny_bind (wpAny_loadPart hx1 (wpAny_bind ((looks_clsIn X' hcd).here ?_))))))
 rw[hdict]
 refine wpAny_pure (a:=some (ρ d)) (wpAny_bind (wpAny_pure (wpAny_bind ?_)))
 unfold nsSet
 refine wpAny_bind (wpAny_bind (wpAny_askSetting (wpAny_pure (wpAny_bind (wpAny_mkText (wpAny_bind (wpAny_loadPart hd1 ?_)))))))
 dsimp only[dObj]
 have cc:(!es.any (·.key.isStr name)&&es.any (·.refKey))=false:=by rw[noRefKey hk,Bool.and_false]
 rw[aRefKeyMayBeTheName_at,cc]
 refine wpAny_updatePart hd1 ?_
 have U:(s.heap.update (ρ d) (Obj.putName name (PyData.keyHash cx.w.params name) (.str name (s.toks+1)) v)).get? (ρ d)=some (dObj es' k'):=by
  have:=Heap.get?_update_self (Obj.putName name (PyData.keyHash cx.w.params name) (.str name (s.toks+1)) v) hd1 (by rw[hp]; rfl)
  rwa [hp] at this
 have hsz':es'.size≤1001:=by trivial
 refine wpAny_bind (wpAny_lookBehind U (by exact pastItsLine_dict (by rw[sizeLine_eq]; trivial)) ?_)
 refine wpAny_pure (hQ _ ?_)
 refine Stp.put _ I hd (Heap.SameBut.update ..) ?_ rfl rfl
 have K:Kp H.n ρ s.heap H.n ρ (s.heap.update (ρ d) (Obj.putName name (PyData.keyHash cx.w.params name) (.str name (s.toks+1)) v)):=⟨Nat.le_refl _,fun ι ι=>rfl,fun a o e hc=>(Heap.SameBut.update ..).extBut a o (fun q=>I.notMut e hc d hd q.symm) e⟩
 have L:=length_setL kvs name x
 refine ⟨es',k',U,hk',?_,fun y w hy => ?_,fun y hy => ?_⟩
 ·cases hn:kvs.lookup name with
  | none=>rw[L.2.2 hn]; trivial
  | some z =>
   obtain ⟨u,hu,_⟩:=h1 _ _ hn
   rw[hz'' (by rw[hu]; simp)]; trivial
 ·rw[lookup_setL] at hy
  rw[hf']
  by_cases hyn:y=name
  ·rw[if_pos hyn] at hy ⊢; cases hy; exact ⟨v,rfl,rv.mono K⟩
  ·rw[if_neg hyn] at hy ⊢
   obtain ⟨u,hu,ru⟩:=h1 _ _ hy
   exact ⟨u,hu,ru.mono K⟩
 ·rw[lookup_setL] at hy
  rw[hf']
  by_cases hyn:y=name
  ·rw[if_pos hyn] at hy; first | contradiction | cases hy
  ·rw[if_neg hyn] at hy ⊢; exact h2 _ hy
end
end
section
section
variable {cx:Cx} {A:Around} {s:Shared} {ρ:Nat→Addr} {H:Hp} {E:Value→Shared→Prop}
theorem method_shadow{K:Frag}{prog:Program}{w:World}{x C f:Addr}{ox:Obj}{o:Obj}{name:Str}{v:Value}{pl:Sem Bool}{Q:Value×List Value→Shared→Prop}(X:K.In s.heap)(I:InstAt s.heap x ox C (some o))(hga:findIn K (.ref C) "__getattribute__"=some (some (.builtin "object.__getattribute__")))(hk:findIn K (.ref C) "__getattr__"=some none)
  (hf:findIn K (.ref C) name=some (some (.ref f))) (ht:typeIn K (.ref f)=some (.type "function")) (hs:lookIn name o=some (some v))
  (h:wpAny (model prog w) A (getAttr (.ref x) name) (fun v=>Q (v,[])) E s) :
  wpAny (model prog w) A (getMethod (.ref x) name pl) Q E s:=by
 have hcan:=PySem.F.canon_object_ga
 have u:wpAny (model prog w) A (do return (← getAttr (.ref x) name,([]:List Value))) Q E s:=wpAny_bind (wpAny_mono h (fun ι ι z=>wpAny_pure z) fun ι ι z=>z)
 unfold getMethod specialOf
 refine wpAny_bind (wpAny_bind (I.type.here ((looks_findIn X hga).here ?_)))
 dsimp only
 rw[hcan,if_neg (by decide)]
 refine wpAny_bind (wpAny_bind (I.type.here ((looks_findIn X hk).here ?_)))
 refine wpAny_bind (wpAny_bind (I.type.here ((looks_findIn X hf).here (wpAny_bind ((looks_typeIn X ht).here ?_)))))
 rw[if_neg (by decide+kernel)]
 refine wpAny_bind (wpAny_loadPart I.at_ ?_)
 have hd:=I.dict
 cases e:ox.dict with
 | none=>rw[e] at hd; exact hd.elim
 | some dx =>
  rw[e] at hd
  refine wpAny_bind (wpAny_bind (wpAny_loadPart hd ?_))
  rw[nsLook_of hs]
  exact wpAny_pure u
theorem s_methInst{pe:Pe}(P:PeOk pe cx){i C d:Nat}{kvs:List (Str×V)}{name:Str}{m:Option Addr}{x:V}{pl:Sem Bool}{Q:Value×List Value→Shared→Prop}
  (hi:i<H.n) (e:H.f i = .inst C d) (ed:H.f d = .ns kvs) (hc:pe.cls C name=some m) (hx:(kvs.lookup name).or (m.map fun f=>V.mt f (.ref i))=some x) (I:Inv cx ρ H s)
  (hQ:∀ f first s',Stp cx NoW ρ H s ρ H s'→Cal H.n ρ s'.heap f first x→Q (f,first) s'):wpAny cx.M A (getMethod (.ref (ρ i)) name pl) Q E s:=by
 obtain ⟨hd,hx1⟩:=I.inst hi e
 obtain ⟨es,k,hd1,hk,_,h1,h2⟩:=I.ns hd ed
 have c:=P.cls hc
 have X:cx.K.In s.heap:=P.kin.keeps I.keep
 have J:=instAt_of hx1 hd1
 have G:=s_getInst P (A:=A) (E:=E) (expr:=false) (Q:=fun v=>Q (v,[])) hi e ed hc hx I fun v s' S r=>hQ _ _ _ S (.obj r)
 cases hv:kvs.lookup name with
 | none =>
  rw[hv] at hx
  cases m with
  | none=>first | contradiction | cases hx
  | some f =>
   cases hx
   refine method_fn X J c.hga c.hk c.hf (c.fn f rfl).1 ?_ (hQ _ _ _ (Stp.refl _ I) (.mt (.ref i hi)))
   show (lookIn name (dObj es k)).map (·.isSome)=some false
   rw[lookIn_of hk,h2 _ hv]; rfl
 | some v =>
  cases m with
  | none=>exact method_usual X J c.hga c.hk c.hf rfl G
  | some f =>
   obtain ⟨u,hu,_⟩:=h1 _ _ hv
   exact method_shadow X J c.hga c.hk c.hf (c.fn f rfl).1 (by rw[lookIn_of hk,hu]) G
theorem gm_str{name:Str}{id:String}{x:Str}{t:Tok}{pl:Sem Bool}{Q:Value×List Value→Shared→Prop}(slot:Slot "str" name id)(ty:typeOf (.builtin id)=pure (.type "method_descriptor"))(h:Q (.builtin id,[.str x t]) s):
  wpAny cx.M A (getMethod (.str x t) name pl) Q E s:=by
 have h1:s.TypeIs (.str x t) "str":=typeIs_str _ _ _
 have h2 := @getMethod_builtin cx.M A E s (.str x t) "str" name id pl Q h1 F.plainAttrs_str slot ty GM.noRef h
 with_reducible exact h2
noncomputable def TabOk(T:String)(tab:List (Str×Pm)):Prop:=∀ q∈tab,Slot T q.1 q.2.id∧typeOf (.builtin q.2.id)=pure (.type "method_descriptor")
theorem tab_cons{T:String}{q:Str×Pm}{tab:List (Str×Pm)}(h1:Slot T q.1 q.2.id)(h2:typeOf (.builtin q.2.id)=pure (.type "method_descriptor"))(h:TabOk T tab):TabOk T (q::tab):=fun r hr=>by
 rcases List.mem_cons.mp hr with rfl | hr
 ·exact ⟨h1,h2⟩
 ·exact h r hr
theorem tab_nil{T:String}:TabOk T []:=fun ι h=>nomatch h
theorem list_tab:TabOk "list" listTab:=tab_cons F.slot_list_append F.type_list_append (tab_cons F.slot_list_pop F.type_list_pop (tab_cons F.slot_list_sort F.type_list_sort tab_nil))
theorem dict_tab:TabOk "dict" dictTab:=tab_cons F.slot_dict_items F.type_dict_items (tab_cons F.slot_dict_get F.type_dict_get tab_nil)
theorem str_tab:TabOk "str" strTab:=tab_cons F.slot_str_join F.type_str_join (tab_cons F.slot_str_strip F.type_str_strip (tab_cons F.slot_str_rsplit F.type_str_rsplit (tab_cons F.slot_str_split F.type_str_split (tab_cons F.slot_str_find F.type_str_find (tab_cons F.slot_str_startswith F.type_str_startswith (tab_cons F.slot_str_endswith F.type_str_endswith tab_nil))))))
theorem tab_get{tab:List (Str×Pm)}{name:Str}{f:Pm→V}{x:V}(h:(tab.lookup name).map f=some x):∃ p,(name,p)∈tab∧f p=x :=
 let ⟨p,h1,h2⟩:=map_some h; ⟨p,mem_of_lookup h1,h2⟩
theorem gm_ref{T:String}{tab:List (Str×Pm)}(ht:TabOk T tab)(hp:PlainAttrs T){i:Nat}{o:Obj}{name:Str}{x:V}{pl:Sem Bool}{Q:Value×List Value→Shared→Prop}(hi:i<H.n)(ho:s.heap.get? (ρ i)=some o)(hc:o.cls = .type T)(hd:o.dict=none)
  (h:(tab.lookup name).map (fun p=>V.bm p (.ref i))=some x) (hQ:∀ f first,Cal H.n ρ s.heap f first x→Q (f,first) s):wpAny cx.M A (getMethod (.ref (ρ i)) name pl) Q E s:=by
 obtain ⟨p,hm,rfl⟩:=tab_get h
 obtain ⟨h1,h2⟩:=ht _ hm
 exact getMethod_builtin ⟨o,ho,hc⟩ hp h1 h2 (fun a q=>by cases q; exact ⟨o,ho,hd⟩) (hQ _ _ (.bm (.ref i hi)))
theorem s_getMethod{pe:Pe}(P:PeOk pe cx){v x:V}{u:Value}{name:Str}{pl:Sem Bool}{Q:Value×List Value→Shared→Prop}(h:attr pe H name v=some x)(I:Inv cx ρ H s)(ru:Rep H.n ρ s.heap u v)
  (hQ:∀ f first s',Stp cx NoW ρ H s ρ H s'→Cal H.n ρ s'.heap f first x→Q (f,first) s'):wpAny cx.M A (getMethod u name pl) Q E s:=by
 have q:=fun f first=>hQ f first s (Stp.refl _ I)
 cases v with
 | ref i =>
  obtain ⟨hi,rfl⟩:=ru.inv_ref
  have h:attrR pe H name i (H.f i)=some x:=h
  generalize e:H.f i=o at h
  cases o with
  | inst C d =>
   have h:fldN pe name i C (H.f d)=some x:=h
   generalize ed:H.f d=o at h
   cases o with
   | ns kvs =>
    obtain ⟨m,hc,hx⟩:=Option.bind_eq_some_iff.mp h
    exact s_methInst P hi e ed hc hx I hQ
   | _=>first | exact noS h | exact noB h | cases h
  | list xs =>
   obtain ⟨vs,k,ho,_⟩:=I.list hi e
   exact gm_ref list_tab F.plainAttrs_list hi ho rfl rfl h q
  | dict kvs =>
   obtain ⟨ps,⟨o,es,k,ho,hex,_⟩,_⟩:=I.dict hi e
   exact gm_ref dict_tab F.plainAttrs_dict hi ho hex.1 hex.2.1 h q
  | set ks =>
   have hS:=I.objs i hi; rw[e] at hS
   obtain ⟨p,hm,rfl⟩:=tab_get h
   cases List.mem_singleton.mp hm
   exact getMethod_set_add hS.1.set (q _ _ (.bm (p := .sAdd) (.ref i hi)))
  | _=>first | exact noS h | exact noB h | cases h
 | str x =>
  obtain ⟨t,rfl⟩:=ru.inv_str
  obtain ⟨p,hm,rfl⟩:=tab_get h
  obtain ⟨h1,h2⟩:=str_tab _ hm
  have q:=q (.builtin p.id) [.str x t] (.bm (.str x t))
  with_reducible exact gm_str h1 h2 q
 | _=>first | exact noS h | exact noB h | cases h
end
end
section
theorem valueAt_lookup(ps:List (Str×Value))(x:Str):valueAt ps x=ps.lookup x:=by
 unfold valueAt
 induction ps with
 | nil=>rfl
 | cons p ps ih =>
  obtain ⟨y,u⟩:=p
  rw[List.find?_cons,List.lookup_cons]
  by_cases h:y=x
  ·subst h; simp
  ·have h':(x==y)=false:=by simpa using fun e=>h e.symm
   simp only[h,decide_false,h']; exact ih
theorem lookup_rep{n ρ h}{ps:List (Str×Value)}:∀ {kvs:List (Str×V)},ps.map (·.1)=kvs.map (·.1)→RepL n ρ h (ps.map (·.2)) (kvs.map (·.2))→∀ x,
  (∀ v,kvs.lookup x=some v→∃ u,ps.lookup x=some u∧Rep n ρ h u v)∧(kvs.lookup x=none→ps.lookup x=none):=by
 induction ps with
 | nil=>intro kvs hn _ x; cases List.map_eq_nil_iff.mp hn.symm; exact ⟨fun ι e=>noS e,fun ι=>rfl⟩
 | cons p ps ih =>
  intro kvs hn r x
  cases kvs with
  | nil=>exact nomatch hn
  | cons q kvs =>
   obtain ⟨y,u⟩:=p
   obtain ⟨z,w⟩:=q
   obtain ⟨e,hn2⟩:=List.cons.inj hn
   have e:y=z:=e
   subst e
   cases r with | cons a b =>
   rw[List.lookup_cons,List.lookup_cons]
   cases hb:x==y with
   | true=>exact ⟨fun v e=>⟨u,rfl,Option.some.inj e▸a⟩,fun e=>nomatch e⟩
   | false=>exact ih hn2 b x
section
variable {cx:Cx} {A:Around} {s:Shared} {ρ:Nat→Addr} {H:Hp} {E:Value→Shared→Prop}
theorem Stp.setList{i:Nat}{xs:List V}{vs:Array Value}{k:Nat}{s':Shared}(I:Inv cx ρ H s)(hi:i<H.n)(hs:Heap.SameBut (ρ i) s.heap s'.heap)
  (e:s'.heap.get? (ρ i)=some { cls := .type "list",data := .seq vs k }) (r:RepL H.n ρ s.heap vs.toList xs) (hos:s'.os=s.os) (hb:s'.gens=s.gens):Stp cx NoW ρ H s ρ (H.put i (.list xs)) s':=by
 refine Stp.put _ I hi hs ⟨vs,k,e,r.mono ⟨Nat.le_refl _,fun ι ι=>rfl,fun a o e hc=>hs.extBut a o (fun q=>I.notMut e hc i hi q.symm) e⟩⟩ hos hb
theorem p_append{i:Nat}{xs:List V}{v:Value}{x:V}{Q:Value→Shared→Prop}(hi:i<H.n)(e:H.f i = .list xs)(hl:xs.length<lim)(I:Inv cx ρ H s)(rv:Rep H.n ρ s.heap v x)
  (hQ:∀ s',Stp cx NoW ρ H s ρ (H.put i (.list (xs++[x]))) s'→Q .none s'):wpAny cx.M A (call (.builtin "list.append") [.ref (ρ i),v]) Q E s:=by
 obtain ⟨vs,k,ho,q⟩:=I.list hi e
 refine wpAny_list_append_plain ⟨k,ho⟩ (fun h' hp hs=>hQ _ ?_) (by rw[size_of q,← lim_eq]; trivial)
 obtain ⟨k',ho'⟩:=hp
 exact Stp.setList I hi hs ho' (by rw[Array.toList_push]; exact q.snoc rv) rfl rfl
theorem RepL.dropLast{n ρ h vs xs}(r:RepL n ρ h vs xs):RepL n ρ h vs.dropLast xs.dropLast :=
 RepL.ind (m:=fun vs xs ι=>RepL n ρ h vs.dropLast xs.dropLast) .nil (fun a b ih=>by
  cases b with
  | nil=>exact .nil
  | cons b c=>exact .cons a ih) r
theorem RepL.last{n ρ h}{vs:List Value}{xs:List V}{x:V}(r:RepL n ρ h vs xs)(e:xs.getLast? = some x):∃ v,vs.getLast? = some v∧Rep n ρ h v x:=by
 rw[List.getLast?_eq_getElem?] at e ⊢
 obtain ⟨v,hv,q⟩:=r.get _ e
 exact ⟨v,by rw[r.length]; exact hv,q⟩
theorem p_pop{i:Nat}{xs:List V}{x:V}{Q:Value→Shared→Prop}(hi:i<H.n)(e:H.f i = .list xs)(hx:xs.getLast? = some x)(hl:xs.length≤lim)(I:Inv cx ρ H s)
  (hQ:∀ v s',Stp cx NoW ρ H s ρ (H.put i (.list xs.dropLast)) s'→Rep H.n ρ s'.heap v x→Q v s'):wpAny cx.M A (call (.builtin "list.pop") [.ref (ρ i)]) Q E s:=by
 obtain ⟨vs,k,ho,q⟩:=I.list hi e
 obtain ⟨v,hv,rv⟩:=q.last hx
 have hz:=size_of q
 have hv':vs[vs.size-1]? = some v:=by
  rw[List.getLast?_eq_getElem?] at hv; simpa using hv
 have S:Stp cx NoW ρ H s ρ (H.put i (.list xs.dropLast)) { s with heap:=s.heap.update (ρ i) (Obj.mapSeq fun xs=>xs.eraseIdxIfInBounds (vs.size-1)) }:=by
  refine Stp.setList I hi (Heap.SameBut.update ..) (Heap.get?_update_self _ ho rfl) ?_ rfl rfl
  have:(vs.eraseIdxIfInBounds (vs.size-1)).toList=vs.toList.dropLast:=by
   have hne:vs.toList.length=(vs.size-1)+1:=by
    have:vs.size≠0:=fun h0=>by rw[h0] at hv'; simp [Array.getElem?_eq_none (xs:=vs) (i:=0-1) (by trivial)] at hv'
    rw[Array.length_toList]; trivial
   obtain ⟨l⟩:=vs
   simp only[List.size_toArray] at hne ⊢
   rw[List.eraseIdxIfInBounds_toArray,List.dropLast_eq_take,List.eraseIdx_eq_take_drop_succ,List.drop_eq_nil_of_le (by trivial),List.append_nil]
  rw[this]; exact q.dropLast
 exact call_meets F.slot_list_pop ⟨_,ho,rfl⟩ F.entry_list_pop (F.args_list_pop_1 _) (MeetsSeq.list_pop_last (ρ i) vs k v hv' (by rw[hz,← lim_eq]; exact hl)) ⟨ho,hQ _ _ S (S.rep I rv)⟩
theorem p_items{i:Nat}{kvs:List (Str×V)}{Q:Value→Shared→Prop}(hg:HasSys cx)(hi:i<H.n)(e:H.f i = .dict kvs)(I:Inv cx ρ H s)
  (hQ:∀ v s',Stp cx NoW ρ H s ρ H s'→Rep H.n ρ s'.heap v (.view i)→Q v s'):wpAny cx.M A (call (.builtin "dict.items") [.ref (ρ i)]) Q E s:=by
 obtain ⟨ps,hd,hn,q⟩:=I.dict hi e
 exact call_meetsIn F.slot_dict_items hd.typeIs F.entry_dict_items (F.args_dict_items_1 _) (meets_dict_items (PySem.strKind cx.prog cx.w) (ρ i) (I.notSys hg hi))
  ⟨⟨ps,hd⟩,hQ _ _ (Stp.grown _ I (fun ι ι e=>Heap.get?_push_of_some _ e) rfl rfl) (.view hi (Heap.get?_push_size _ rfl))⟩
theorem p_get{i:Nat}{kvs:List (Str×V)}{k:Str}{t:Tok}{Q:Value→Shared→Prop}(hg:HasSys cx)(hi:i<H.n)(e:H.f i = .dict kvs)(I:Inv cx ρ H s)
  (hQ:∀ v s',Stp cx NoW ρ H s ρ H s'→Rep H.n ρ s'.heap v ((kvs.lookup k).getD .none)→Q v s'):wpAny cx.M A (call (.builtin "dict.get") [.ref (ρ i),.str k t]) Q E s:=by
 obtain ⟨ps,hd,hn,q⟩:=I.dict hi e
 refine call_meetsIn F.slot_dict_get hd.typeIs F.entry_dict_get (F.args_dict_get_2 _ _) (meets_dict_get (PySem.strKind cx.prog cx.w) (ρ i) (is_str k t) (I.notSys hg hi)) ⟨_,hd.mapOf,hQ _ _ (Stp.toks _ I) ?_⟩
 rw[valueAt_lookup]
 obtain ⟨h1,h2⟩:=lookup_rep hn q k
 cases hk:kvs.lookup k with
 | none=>rw[h2 hk]; exact .none
 | some v=>obtain ⟨u,hu,r⟩:=h1 v hk; rw[hu]; exact r
theorem p_get2{i:Nat}{kvs:List (Str×V)}{k:Str}{t:Tok}{d:V}{dv:Value}{Q:Value→Shared→Prop}(hg:HasSys cx)(hi:i<H.n)(e:H.f i = .dict kvs)(I:Inv cx ρ H s)(rd:Rep H.n ρ s.heap dv d)
  (hQ:∀ v s',Stp cx NoW ρ H s ρ H s'→Rep H.n ρ s'.heap v ((kvs.lookup k).getD d)→Q v s'):wpAny cx.M A (call (.builtin "dict.get") [.ref (ρ i),.str k t,dv]) Q E s:=by
 obtain ⟨ps,hd,hn,q⟩:=I.dict hi e
 refine call_meetsIn F.slot_dict_get hd.typeIs F.entry_dict_get (F.args_dict_get_3 _ _ _) (meets_dict_get_default (PySem.strKind cx.prog cx.w) (ρ i) (is_str k t) (I.notSys hg hi) dv) ⟨_,hd.mapOf,hQ _ _ (Stp.toks _ I) ?_⟩
 rw[valueAt_lookup]
 obtain ⟨h1,h2⟩:=lookup_rep hn q k
 cases hk:kvs.lookup k with
 | none=>rw[h2 hk]; exact rd
 | some v=>obtain ⟨u,hu,r⟩:=h1 v hk; rw[hu]; exact r
theorem p_sadd{i:Nat}{ks:List Str}{k:Str}{t:Tok}{Q:Value→Shared→Prop}(hi:i<H.n)(e:H.f i = .set ks)(hl:ks.length<1000)(I:Inv cx ρ H s)
  (hQ:∀ s',Stp cx NoW ρ H s ρ (H.put i (.set (addL ks k))) s'→Q .none s'):wpAny cx.M A (call (.builtin "set.add") [.ref (ρ i),.str k t]) Q E s:=by
 have hS:SetL cx.prog cx.w s.heap (ρ i) ks:=by have:=I.objs i hi; rw[e] at this; exact this
 exact c_set_add hS (by simp only[scanBound]; trivial) fun h' hs hL=>hQ _ (Stp.put _ I hi hs hL rfl rfl)
theorem strValues_eq(ts:List (Str×Tok)):strValues ts=ts.map fun p=>Value.str p.1 p.2:=by
 unfold strValues; rfl
theorem p_join{i:Nat}{xs:List V}{l:List Str}{x:Str}{t:Tok}{Q:Value→Shared→Prop}(hi:i<H.n)(e:H.f i = .list xs)(hl:strsOf xs=some l)(hok:JoinOk x l=true)(I:Inv cx ρ H s)
  (hQ:∀ v s',Stp cx NoW ρ H s ρ H s'→Rep H.n ρ s'.heap v (.str (Txt.join x l))→Q v s'):wpAny cx.M A (call (.builtin "str.join") [.str x t,.ref (ρ i)]) Q E s:=by
 obtain ⟨vs,k,ho,q⟩:=I.list hi e
 obtain ⟨ts,h1,h2⟩:=strsOf_rep hl q
 refine SC.join (l:=ts) (texts:=l) ?_ h1 hok fun t' k=>hQ _ _ (Stp.toks _ I) (.str _ _)
 rw[strValues_eq,← h2]; exact isList_of (by simpa using ho)
end
end
section
section
variable {cx:Cx} {A:Around} {s:Shared} {ρ:Nat→Addr} {H:Hp} {E:Value→Shared→Prop}
theorem check_join(x:Str)(t:Tok)(v:Value):checkBoundCall "str.join" ⟨[.str x t,v],[]⟩=pure ():=by kernel_rfl
noncomputable def appSig:Manifest.Signature:=(Manifest.signature? "list.append").get (by decide+kernel)
theorem appSig_eq:Manifest.signature? "list.append"=some appSig:=by simp [appSig]
theorem appArgs(l v:Value):Bind.checkArgs "list.append" { appSig with full:=s!"{Bind.lastOf "list"}.{Bind.lastOf "list.append"}" } ⟨[l,v],[]⟩=pure ():=by kernel_rfl
theorem sub_list_module:isSubtype (.type "list") (.type "module")=pure false:=by rw[isSubtype_type]; kernel_rfl
theorem check_append{l:Addr}{v:Value}{o:Obj}{items:Array Value}{n:Nat}{Q:Unit→Shared→Prop}(ho:s.heap.get? l=some o)(hc:o.cls = .type "list")(hd:o.data = .seq items n)(h:Q () s):
  wpAny cx.M A (checkBoundCall "list.append" ⟨[.ref l,v],[]⟩) Q E s:=by
 have hT:s.TypeIs (.ref l) "list":=⟨o,ho,hc⟩
 unfold checkBoundCall
 rw[appSig_eq,show builtinKind "list.append"=some .method by decide+kernel]
 dsimp only
 rw[if_neg (by decide)]
 refine wpAny_bind (wpAny_isInstance hT sub_list_module ?_)
 rw[if_neg (by decide+kernel)]
 refine wpAny_bind (m:=isType (.ref l)) ?_
 unfold isType
 refine wpAny_bind (wpAny_loadPart ho ?_)
 rw[hd]
 refine wpAny_pure ?_
 rw[if_neg (by simp)]
 refine wpAny_bind (wpAny_typeOf hT ?_)
 dsimp only
 exact wpAny_of_eq (appArgs _ _) h
theorem bound_code{a:Addr}{id:String}{w:Value}{vs:List Value}{B:Builtin}{R:Result→Shared→Prop}(ho:s.heap.get? a=some { cls := .type "builtin_function_or_method",data := .fields #[.builtin id,w] })
  (hb:entryFor table id=some B) (hq:plainId id=true)
  (h:wpAny cx.M A.in1 (checkBoundCall id ⟨w::vs,[]⟩) (fun _ s₁=>wpAny cx.M A.in1 (B ⟨w::vs,[]⟩) (fun fin s'=>match fin with | .done f=>R (.ok f) s' | .again c'=>c'.quiet=true∧codeAny cx.M A c' R s') (fun e s'=>R (.error e) s') s₁) (fun e s'=>R (.error e) s') s) :
  codeAny cx.M A (.call (.ref a) ⟨vs,[]⟩) R s:=by
 refine codeAny_of_tree ?_
 show wpAny _ A.in1 (callAny (.ref a) ⟨vs,[]⟩) _ _ s
 show wpAny _ A.in1 (load a >>= _) _ _ _
 refine wpAny_bind (wpAny_load ho (wiT rfl ?_))
 refine wpAny_bind (wpAny_mono h (fun _ s₁ h₁=>wpAny_pure ⟨plainId_quiet hq _,codeAny_builtin hb ?_⟩) fun ι ι e=>e)
 rw[Around.under_plainId hq]; exact h₁
theorem bound_append{a:Addr}{i:Nat}{xs:List V}{v:Value}{x:V}{Q:Value→Shared→Prop}(ho:s.heap.get? a=some { cls := .type "builtin_function_or_method",data := .fields #[.builtin "list.append",.ref (ρ i)] })
  (hi:i<H.n) (e:H.f i = .list xs) (hl:xs.length<lim) (I:Inv cx ρ H s) (rv:Rep H.n ρ s.heap v x)
  (hQ:∀ s',Stp cx NoW ρ H s ρ (H.put i (.list (xs++[x]))) s'→Q .none s'):wpAny cx.M A (call (.ref a) [v]) Q E s:=by
 obtain ⟨vs,k,hl',q⟩:=I.list hi e
 refine wpAny_call (bound_code ho F.entry_list_append (by decide+kernel) (check_append hl' rfl rfl ?_))
 refine PySem.list_append (ρ i) vs k v (by rw[size_of q,← lim_eq]; trivial) cx.prog cx.w A (wants Q E) s ⟨hl',hQ _ ?_⟩
 exact Stp.setList I hi (Heap.SameBut.update ..) (Heap.get?_update_self _ hl' rfl) (by rw[Array.toList_push]; exact q.snoc rv) rfl rfl
theorem bound_join{a:Addr}{i:Nat}{xs:List V}{l:List Str}{x:Str}{t:Tok}{Q:Value→Shared→Prop}(ho:s.heap.get? a=some { cls := .type "builtin_function_or_method",data := .fields #[.builtin "str.join",.str x t] })
  (hi:i<H.n) (e:H.f i = .list xs) (hl:strsOf xs=some l) (hok:JoinOk x l=true) (I:Inv cx ρ H s)
  (hQ:∀ v s',Stp cx NoW ρ H s ρ H s'→Rep H.n ρ s'.heap v (.str (Txt.join x l))→Q v s'):wpAny cx.M A (call (.ref a) [.ref (ρ i)]) Q E s:=by
 obtain ⟨vs,k,hl',q⟩:=I.list hi e
 obtain ⟨ts,h1,h2⟩:=strsOf_rep hl q
 refine wpAny_call (bound_code ho F.entry_str_join (by decide+kernel) (wpAny_of_eq (check_join _ _ _) ?_))
 subst h1
 have hok':=hok
 unfold JoinOk at hok'
 rw[Bool.not_eq_true'] at hok'
 refine meets_str_join_list x t (ρ i) ts hok' cx.prog cx.w A (wants Q E) s ⟨?_,post_join ts ⟨joinFit_length hok',fun t' k=>hQ _ _ (Stp.toks _ I) (.str _ _)⟩⟩
 rw[strValues_eq,← h2]; exact isList_of (by simpa using hl')
theorem method_code{a f:Addr}{w:Value}{vs:List Value}{kvs:List (Str×Value)}{R:Result→Shared→Prop}(ho:s.heap.get? a=some { cls := .type "method",data := .fields #[.ref f,w] })
  (h:codeAny cx.M A (.call (.ref f) ⟨w::vs,kvs⟩) R s):codeAny cx.M A (.call (.ref a) ⟨vs,kvs⟩) R s:=by
 refine codeAny_of_tree ?_
 show wpAny _ A.in1 (callAny (.ref a) ⟨vs,kvs⟩) _ _ s
 show wpAny _ A.in1 (load a >>= _) _ _ _
 refine wpAny_bind (wpAny_load ho (wiT rfl ?_))
 exact wpAny_pure ⟨rfl,h⟩
end
end
section
section
variable {cx:Cx} {A:Around} {s:Shared} {ρ:Nat→Addr} {H:Hp} {E:Value→Shared→Prop}
theorem f_len{i:Nat}{xs:List V}{Q:Value→Shared→Prop}(hi:i<H.n)(e:H.f i = .list xs)(hl:xs.length≤lim)(I:Inv cx ρ H s)
  (hQ:∀ v s',Stp cx NoW ρ H s ρ H s'→Rep H.n ρ s'.heap v (.int xs.length)→Q v s'):wpAny cx.M A (call (.builtin "len") [.ref (ρ i)]) Q E s:=by
 obtain ⟨vs,k,ho,q⟩:=I.list hi e
 have hz:=size_of q
 have e24:lim=16777216:=rfl
 refine PySem.Calls.call_len_list (isList_of ho) (by trivial) ?_
 rw[hz]; exact hQ _ _ (Stp.toks _ I) (.int _ _)
theorem f_dict{i:Nat}{kvs:List (Str×V)}{Q:Value→Shared→Prop}(hg:HasSys cx)(hi:i<H.n)(e:H.f i = .dict kvs)(hl:kvs.length≤lim)(I:Inv cx ρ H s)
  (hQ:∀ v s' ρ',Stp cx NoW ρ H s ρ' (H.alloc (.dict kvs)) s'→Rep (H.n+1) ρ' s'.heap v (.ref H.n)→Q v s'):wpAny cx.M A (call (.type "dict") [.ref (ρ i)]) Q E s:=by
 obtain ⟨ps,hd,hn,q⟩:=I.dict hi e
 have hz:ps.length=kvs.length:=by have:=congrArg List.length hn; simpa using this
 refine kt_call_dict (I.notSys hg hi) hd (by rw[hz,← lim_eq]; exact hl) fun h' hd' hs => ?_
 have hk:∀ a o,s.heap.get? a=some o→h'.get? a=some o:=fun a o e=>hs.extBut a o (Nat.ne_of_lt (Heap.lt_size e)) (Heap.get?_push_of_some _ e)
 refine hQ _ _ (fun j=>if j=H.n then s.heap.objs.size else ρ j) (Stp.new _ I (get?_size _) I.neS hk ⟨ps,hd',hn,?_⟩ rfl rfl) rep_new
 exact q.mono ⟨Nat.le_succ _,fun i hi=>if_neg (Nat.ne_of_lt hi),fun a o e ι=>hk a o e⟩
theorem f_set{Q:Value→Shared→Prop}(I:Inv cx ρ H s)
  (hQ:∀ v s' ρ',Stp cx NoW ρ H s ρ' (H.alloc (.set [])) s'→Rep (H.n+1) ρ' s'.heap v (.ref H.n)→Q v s'):wpAny cx.M A (call (.type "set") []) Q E s:=by
 exact c_set_0 (hQ _ _ (fun j=>if j=H.n then s.heap.objs.size else ρ j) (Stp.new _ I (get?_size _) I.neS (fun ι ι e=>Heap.get?_push_of_some _ e) (SetL.fresh (Heap.get?_push_size _ rfl)) rfl rfl) rep_new)
theorem f_divmod{x y:Int}{t u:Tok}{Q:Value→Shared→Prop}(hy:0<y∧y<2 ^ 30)(I:Inv cx ρ H s)
  (hQ:∀ v s',Stp cx NoW ρ H s ρ H s'→Rep H.n ρ s'.heap v (.tup [.int (x/y),.int (x % y)])→Q v s'):wpAny cx.M A (call (.builtin "divmod") [.int x t,.int y u]) Q E s:=by
 refine divmod_int (Int.ne_of_gt hy.1) (hQ _ _ (Stp.grown _ I (fun ι ι e=>Heap.get?_push_of_some _ e) rfl rfl) (.tup (Heap.get?_push_size _ rfl) ?_)) (.inl (PyProof.noPylong_small (natAbs_small hy)))
 rw[Int.fdiv_eq_ediv_of_nonneg _ (Int.le_of_lt hy.1),Int.fmod_eq_emod_of_nonneg _ (Int.le_of_lt hy.1)]
 exact .cons (.int _ _) (.cons (.int _ _) .nil)
end
end
section
section
variable {cx:Cx} {A:Around} {s:Shared} {E:Value→Shared→Prop}
noncomputable abbrev sortHeap(h:Heap)(a:Addr)(vs:List Value):Heap:=((h.update a (Obj.mapSeq fun ι=>(#[]:Array Value))).push (seqObj "tuple" vs.toArray 0)).push (seqObj "list" #[] 0)
theorem sort_body{a:Addr}{vs:List Value}{n:Nat}{κ:SortKind}{lt:Nat→Nat→Bool}{P:PySem.Fin→Shared→Prop}(ho:s.heap.get? a=some (seqObj "list" vs.toArray n))(h25:2≤vs.length∧vs.length≤5)
  (hk:∀ Q:SortKind→Shared→Prop,Q κ { s with heap:=sortHeap s.heap a vs }→wpAny cx.M A (keyKind' vs.toArray) Q E { s with heap:=sortHeap s.heap a vs })
  (hc:∀ (i j:Nat) (C:Bool→Shared→Prop),i<vs.length→j<vs.length→C (lt i j) { s with heap:=sortHeap s.heap a vs }→kas_ask cx.prog cx.w A κ vs i j C { s with heap:=sortHeap s.heap a vs })
  (h:P (.done (.ret .none)) { s with heap:=(sortHeap s.heap a vs).update a (Obj.mapSeq fun ι=>((krun lt (kas_sort vs.length)).toList.map fun i=>vs.getD i .none).toArray) }) :
  wpAny cx.M A (Builtin.«list.sort» ⟨[.ref a],[]⟩) P E s:=by
 have ha:a<s.heap.objs.size:=Heap.lt_size ho
 obtain ⟨e1,ho1⟩:∃ e1,(s.heap.update a (Obj.mapSeq fun ι=>(#[]:Array Value))).get? a=some (seqObj "list" #[] e1):=⟨_,get?_update_seq ho fun ι => #[]⟩
 have ho3:(sortHeap s.heap a vs).get? a=some (seqObj "list" #[] e1):=Heap.get?_push_of_some _ (Heap.get?_push_of_some _ ho1)
 have ask:(kas_sort vs.length).kasWp (kas_ask cx.prog cx.w A κ vs) (fun p s'=>p=krun lt (kas_sort vs.length)∧s'={ s with heap:=sortHeap s.heap a vs }) { s with heap:=sortHeap s.heap a vs } :=
  krun_low hc _ (low_sort h25) ⟨rfl,rfl⟩
 have hpl:(krun lt (kas_sort vs.length)).toList.length=vs.length:=by
  have h1:=krun_ok (lt:=lt) (f:=okP vs.length) _ (low_sort h25)
  exact Nat.eq_of_beq_eq_true (Bool.and_eq_true_iff.mp h1).1
 rw[list_sort_plain]
 refine wpAny_bind (listItems_at ho rfl ?_)
 refine wpAny_bind (listUpdate_at ho rfl ?_ (by rw[List.size_toArray,sizeLine_eq]; trivial) (Nat.zero_le _))
 refine wpAny_bind (seqEpoch_at ho1 rfl ?_)
 refine wpAny_bind (wpAny_newTuple ?_ (by show vs.length≤_; rw[sizeLine_eq]; trivial))
 refine wpAny_bind (wpAny_newList ?_ (Nat.zero_le _))
 refine wpAny_holding ?_
 show wpAny cx.M A _ P E { s with heap:=sortHeap s.heap a vs }
 dsimp only
 have hn2:¬ vs.toArray.size<2:=by rw[List.size_toArray]; trivial
 rw[if_neg hn2,if_neg hn2]
 refine wpAny_bind (hk _ ?_)
 have run:=kat_run (E:=E) (ks:=vs) (vs:=vs) (Q:=fun st' s'=>∃ p:Array Nat,p.size=vs.length∧arrOf st'=p.map (kas_item (vs.toArray.zip vs.toArray))∧failedOf st'=none∧(p=krun lt (kas_sort vs.length)∧s'={ s with heap:=sortHeap s.heap a vs }))
  rfl h25.1 (by trivial) (fun p' st' s' a1 a2 a3 a4=>⟨p',a1,a2,a3,a4⟩) ask
 refine wpAny_bind (wpAny_mono run ?_ fun ι ι e=>e)
 rintro ⟨⟨⟩,st'⟩ s' ⟨p,hp,har,hf,rfl,rfl⟩
 dsimp only
 have hout:=kat_snds rfl har
 have hsz:(List.toArray ((krun lt (kas_sort vs.length)).toList.map fun i=>vs.getD i Value.none)).size≤sizeLine+1:=by rw[List.size_toArray,List.length_map,hpl,sizeLine_eq]; trivial
 rw[hout]
 refine wpAny_bind (seqEpoch_at ho3 rfl ?_)
 refine wpAny_bind (listUpdate_at ho3 rfl ?_ (Nat.zero_le _) hsz)
 rw[hf]
 simp only[bne_self_eq_false,Bool.false_eq_true,if_false]
 exact wpAny_pure h
theorem rep_pick{n:Nat}{ρ:Nat→Addr}{h:Heap}{vs:List Value}{xs:List V}(r:RepL n ρ h vs xs){p:List Nat}:(∀ i∈p,i<xs.length)→RepL n ρ h (p.map fun i=>vs.getD i .none) (p.map fun i=>xs.getD i .none):=by
 induction p with
 | nil=>exact fun ι => .nil
 | cons i p ih =>
  intro hp
  have hi:=hp i (.head _)
  obtain ⟨u,hu,ru⟩:=r.get i (x:=xs.getD i .none) (by rw[List.getD_eq_getElem?_getD,List.getElem?_eq_getElem hi]; rfl)
  refine .cons ?_ (ih fun j hj=>hp j (.tail _ hj))
  show Rep _ _ _ (vs.getD i Value.none) (xs.getD i .none)
  rw[List.getD_eq_getElem?_getD (l:=vs),hu]; exact ru
end
end
section
section
variable {cx:Cx} {A:Around} {s:Shared} {E:Value→Shared→Prop} {ρ:Nat→Addr} {H:Hp}
theorem sort_small{a:Addr}{vs:List Value}{n:Nat}{P:PySem.Fin→Shared→Prop}(ho:s.heap.get? a=some (seqObj "list" vs.toArray n))(h2:vs.length<2)
  (h:P (.done (.ret .none)) { s with heap:=(sortHeap s.heap a vs).update a (Obj.mapSeq fun ι=>vs.toArray) }) :
  wpAny cx.M A (Builtin.«list.sort» ⟨[.ref a],[]⟩) P E s:=by
 have ha:a<s.heap.objs.size:=Heap.lt_size ho
 obtain ⟨e1,ho1⟩:∃ e1,(s.heap.update a (Obj.mapSeq fun ι=>(#[]:Array Value))).get? a=some (seqObj "list" #[] e1):=⟨_,get?_update_seq ho fun ι => #[]⟩
 have ho3:(sortHeap s.heap a vs).get? a=some (seqObj "list" #[] e1):=Heap.get?_push_of_some _ (Heap.get?_push_of_some _ ho1)
 rw[list_sort_plain]
 refine wpAny_bind (listItems_at ho rfl ?_)
 refine wpAny_bind (listUpdate_at ho rfl ?_ (by rw[List.size_toArray,sizeLine_eq]; trivial) (Nat.zero_le _))
 refine wpAny_bind (seqEpoch_at ho1 rfl ?_)
 refine wpAny_bind (wpAny_newTuple ?_ (by show vs.length≤_; rw[sizeLine_eq]; trivial))
 refine wpAny_bind (wpAny_newList ?_ (Nat.zero_le _))
 refine wpAny_holding ?_
 show wpAny cx.M A _ P E { s with heap:=sortHeap s.heap a vs }
 dsimp only
 have hn2:vs.toArray.size<2:=by rw[List.size_toArray]; trivial
 rw[if_pos hn2,if_pos hn2]
 refine wpAny_bind (wpAny_pure ?_)
 refine wpAny_bind (wpAny_pure ?_)
 dsimp only
 have hout:(arrOf (SortSt.mk' general' (vs.toArray.zip vs.toArray) #[] 7 none)).map (·.2)=vs.toArray:=by
  show (vs.toArray.zip vs.toArray).map (·.2)=vs.toArray
  apply Array.toList_inj.mp
  simp [List.map_snd_zip]
 rw[hout]
 refine wpAny_bind (seqEpoch_at ho3 rfl ?_)
 refine wpAny_bind (listUpdate_at ho3 rfl ?_ (Nat.zero_le _) (by rw[List.size_toArray,sizeLine_eq]; trivial))
 simp only[bne_self_eq_false,Bool.false_eq_true,if_false]
 exact wpAny_pure h
theorem looks_str{M:Model}{h:Heap}{x:Str}{t:Tok}:Looks M h (typeOf (.str x t)) (.type "str") := .now
noncomputable def IsP(h:Heap)(x:V)(v:Value):Prop:=Ex6 fun a k y z t u=>x = .tup [.str y,.str z]∧v = .ref a∧h.get? a=some { cls := .type "tuple",data := .seq #[.str y t,.str z u] k }
theorem isS_of{x:V}(e:isS x=true):∃ a,x = .str a:=by
 cases x with
 | str a=>exact ⟨a,rfl⟩
 | _=>exact noB e
theorem isPair_of{x:V}(e:isPairV x=true):Ex2 fun a b=>x = .tup [.str a,.str b]:=by
 cases x with
 | tup xs =>
  cases xs with
  | nil=>exact noB e
  | cons x l=>cases l with
   | nil=>exact noB e
   | cons y l=>cases l with
    | nil =>
     have e:(isS x&&isS y)=true:=e
     obtain ⟨e1,e2⟩:=Bool.and_eq_true_iff.mp e
     obtain ⟨a,rfl⟩:=isS_of e1
     obtain ⟨b,rfl⟩:=isS_of e2
     exact ⟨a,b,rfl⟩
    | cons=>exact noB e
 | _=>exact noB e
theorem isP_of{n h}(x:V)(v:Value)(e:isPairV x=true)(r:Rep n ρ h v x):IsP h x v:=by
 obtain ⟨y,z,rfl⟩:=isPair_of e
 obtain ⟨ad,vs,k,rfl,e,r⟩:=r.inv_tup
 obtain ⟨l⟩:=vs
 have r:RepL n ρ h l [.str y,.str z]:=r
 cases r with | cons r1 r =>
 cases r with | cons r2 r =>
 cases r
 obtain ⟨t,rfl⟩:=r1.inv_str
 obtain ⟨u,rfl⟩:=r2.inv_str
 exact ⟨ad,k,y,z,t,u,rfl,rfl,e⟩
theorem s_ltStr{x y:Str}{t u:Tok}{b:Bool}{Q:Bool→Shared→Prop}(h:Q (ltS x y) s):wpAny cx.M A (oneLt' b (.str x t) (.str y u)) Q E s:=by
 cases b with
 | true=>exact oneLt_str h
 | false=>exact kat_one _ _ (PyProof.Rows.lt_str (show PySem.W.BoolBack Q _ s from h))
theorem sortHeap_get{h:Heap}{a b:Addr}{vs:List Value}{o:Obj}(e:h.get? b=some o)(hb:b≠a):(sortHeap h a vs).get? b=some o :=
 Heap.get?_push_of_some _ (Heap.get?_push_of_some _ ((Heap.get?_update_other _ _ (Ne.symm hb)).trans e))
set_option tactic.hygienic true in
theorem s_sort{a:Addr}{vs:List Value}{n:Nat}{xs ys:List V}{P:PySem.Fin→Shared→Prop}(ho:s.heap.get? a=some (seqObj "list" vs.toArray n))(r:RepL H.n ρ s.heap vs xs)
  (hs:SortV xs ys)
  (h:∀ h' ws k,Heap.ExtBut a s.heap h'→h'.get? a=some (seqObj "list" ws k)→(∀ n ρ h,RepL n ρ h vs xs→RepL n ρ h ws.toList ys)→P (.done (.ret .none)) { s with heap:=h' }) :
  wpAny cx.M A (Builtin.«list.sort» ⟨[.ref a],[]⟩) P E s:=by
 have hna:∀ b o,s.heap.get? b=some o→o.cls = .type "tuple"→b≠a:=fun b o e hc q=>by
  subst q; rw[ho] at e; cases e; simp [seqObj] at hc
 obtain ⟨hpr,h64,rfl⟩:=hs
 have hl:=r.length
 have hx0:Heap.ExtBut a s.heap (sortHeap s.heap a vs):=fun b o hb e=>sortHeap_get e hb
 obtain ⟨e1,ho1⟩:∃ e1,(s.heap.update a (Obj.mapSeq fun ι=>(#[]:Array Value))).get? a=some (seqObj "list" #[] e1):=⟨_,get?_update_seq ho fun ι => #[]⟩
 have ho3:(sortHeap s.heap a vs).get? a=some (seqObj "list" #[] e1):=Heap.get?_push_of_some _ (Heap.get?_push_of_some _ ho1)
 have fin:∀ ws:Array Value,(∀ n ρ h,RepL n ρ h vs xs→RepL n ρ h ws.toList (srt .none ltPair xs))→P (.done (.ret .none)) { s with heap:=(sortHeap s.heap a vs).update a (Obj.mapSeq fun ι=>ws) }:=fun ws hw=>by
  obtain ⟨k,e⟩:∃ k,((sortHeap s.heap a vs).update a (Obj.mapSeq fun ι=>ws)).get? a=some (seqObj "list" ws k):=⟨_,get?_update_seq ho3 fun ι=>ws⟩
  exact h _ ws k (fun b o hb e=>(Heap.get?_update_other _ _ (Ne.symm hb)).trans (hx0 b o hb e)) e hw
 by_cases h2:xs.length<2
 ·refine sort_small ho (hl▸h2) (fin _ fun n ρ h r => ?_)
  rw[show srt .none ltPair xs=xs from if_pos h2]; exact r
 have h25:2≤xs.length∧xs.length≤5:=⟨Nat.le_of_not_lt h2,h64⟩
 have gd:∀ i,i<xs.length→xs.getD i .none∈xs:=fun i hi=>by
  rw[List.getD_eq_getElem?_getD,List.getElem?_eq_getElem hi]; exact List.getElem_mem hi
 have gr:∀ i,i<xs.length→Rep H.n ρ s.heap (vs.getD i .none) (xs.getD i .none):=fun i hi=>by
  obtain ⟨u,hu,ru⟩:=r.get i (x:=xs.getD i .none) (by rw[List.getD_eq_getElem?_getD,List.getElem?_eq_getElem hi]; rfl)
  rw[List.getD_eq_getElem?_getD (l:=vs),hu]; exact ru
 have last:RepL H.n ρ s.heap vs xs→∀ n ρ h,RepL n ρ h vs xs→RepL n ρ h (((krun (fun i j=>ltPair (xs.getD i .none) (xs.getD j .none)) (kas_sort vs.length)).toList.map fun i=>vs.getD i .none).toArray).toList (srt .none ltPair xs):=fun _ n ρ h r=>by
  rw[show srt .none ltPair xs=(srtP .none ltPair xs).map fun i=>xs.getD i .none from if_neg h2]
  show RepL n ρ h ((krun (fun i j=>ltPair (xs.getD i .none) (xs.getD j .none)) (kas_sort vs.length)).toList.map fun i=>vs.getD i .none) _
  rw[hl]
  exact rep_pick r (srtP_ok h25).2
 rcases hpr with hpr | hpr
 ·have isp:∀ i,i<xs.length→Ex6 fun p k x y t u=>xs.getD i .none = .tup [.str x,.str y]∧vs.getD i .none = .ref p∧(sortHeap s.heap a vs).get? p=some { cls := .type "tuple",data := .seq #[.str x t,.str y u] k }:=fun i hi=>by
   obtain ⟨p,k,x,y,t,u,e1,e2,e3⟩:=isP_of _ _ (List.all_eq_true.mp hpr _ (gd i hi)) (gr i hi)
   exact ⟨p,k,x,y,t,u,e1,e2,sortHeap_get e3 (hna _ _ e3 rfl)⟩
  have tups:∀ (ws:List Value) (zs:List V),RepL H.n ρ s.heap ws zs→(∀ z∈zs,isPairV z=true)→∃ fs:List Value,KatTups (sortHeap s.heap a vs) ws fs∧fs.length=zs.length∧∀ v∈fs,Ex2 fun x t=>v = .str x t:=fun ws=>by
   induction ws with
   | nil=>intro zs rz _; cases rz; exact ⟨[],.nil,rfl,fun ι h=>nomatch h⟩
   | cons v ws ih =>
    intro zs rz hz
    cases rz with | cons r1 r2 =>
    rename_i z zs
    obtain ⟨fs,f1,f2,f3⟩:=ih zs r2 fun z hz'=>hz z (.tail _ hz')
    obtain ⟨p,k,x,y,t,u,e1,e2,e3⟩:=isP_of _ _ (hz z (.head _)) r1
    subst e2
    refine ⟨.str x t::fs,.cons (sortHeap_get e3 (hna _ _ e3 rfl)) rfl rfl rfl f1,by rw[List.length_cons,f2]; rfl,fun v hv => ?_⟩
    rcases List.mem_cons.mp hv with rfl | hv
    ·exact ⟨x,t,rfl⟩
    ·exact f3 v hv
  obtain ⟨fs,f1,f2,f3⟩:=tups vs xs r fun z hz=>List.all_eq_true.mp hpr z hz
  refine sort_body (κ:=tuples' true) (lt:=fun i j=>ltPair (xs.getD i .none) (xs.getD j .none)) ho (by rw[hl]; exact h25) (fun Q hq => ?_) (fun i j C hi hj hq => ?_) (fin _ (last r))
  ·exact kat_kind (T := .type "str") f1 (by rw[f2]; trivial) (fun v hv=>by obtain ⟨x,t,rfl⟩:=f3 v hv; exact looks_str) (by decide) hq
  ·obtain ⟨p,k,x,y,t,u,e1,e2,e3⟩:=isp i (hl▸hi)
   obtain ⟨p',k',x',y',t',u',g1,g2,g3⟩:=isp j (hl▸hj)
   show wpAny _ _ (keyLt' (tuples' true) (vs.getD i .none) (vs.getD j .none)) _ _ _
   rw[e2,g2]
   refine kat_lt e3 rfl g3 rfl ?_
   show KatLex _ _ _ _ _ _ [(.str x t,.str x' t'),(.str y u,.str y' u')] 0 _
   rw[e1,g1] at hq
   have hq':C (if x=x' then (if y=y' then false else ltS y y') else ltS x x') { s with heap:=sortHeap s.heap a vs }:=hq
   refine kat_cons (PyProof.Rows.eqBool_str (kat_go (fun e=>kat_yes (kat_cons (PyProof.Rows.eqBool_str (kat_go (fun e'=>kat_yes (kat_nil ?_)) fun e'=>kat_no (s_ltStr ?_))))) fun e=>kat_no (s_ltStr ?_)))
   ·rw[if_pos (beq_iff_eq.mp e),if_pos (beq_iff_eq.mp e')] at hq'; exact hq'
   ·rw[if_pos (beq_iff_eq.mp e),if_neg (ne_of_beq_false e')] at hq'; exact hq'
   ·rw[if_neg (ne_of_beq_false e)] at hq'; exact hq'
 ·have iss:∀ i,i<xs.length→Ex2 fun x t=>xs.getD i .none = .str x∧vs.getD i .none = .str x t:=fun i hi=>by
   obtain ⟨x,e⟩:=isS_of (List.all_eq_true.mp hpr _ (gd i hi))
   have hr:=gr i hi
   rw[e] at hr
   obtain ⟨t,e2⟩:=hr.inv_str
   exact ⟨x,t,e,e2⟩
  refine sort_body (κ:=oneType') (lt:=fun i j=>ltPair (xs.getD i .none) (xs.getD j .none)) ho (by rw[hl]; exact h25) (fun Q hq => ?_) (fun i j C hi hj hq => ?_) (fin _ (last r))
  ·refine kas_kind (T := .type "str") (by rw[hl]; exact h25.1) (fun v hv => ?_) (by decide) (by decide) hq
   obtain ⟨i,hi,rfl⟩:=List.mem_iff_getElem.mp hv
   obtain ⟨x,t,e1,e2⟩:=iss i (hl▸hi)
   rw[List.getD_eq_getElem?_getD,List.getElem?_eq_getElem hi] at e2
   rw[show vs[i] = .str x t from e2]; exact looks_str
  ·obtain ⟨x,t,e1,e2⟩:=iss i (hl▸hi)
   obtain ⟨y,u,g1,g2⟩:=iss j (hl▸hj)
   show wpAny _ _ (keyLt' oneType' (vs.getD i .none) (vs.getD j .none)) _ _ _
   rw[e2,g2]
   refine kas_lt_str ?_
   rw[e1,g1] at hq
   have hq':C (if x=y then false else ltS x y) { s with heap:=sortHeap s.heap a vs }:=hq
   by_cases e:x=y
   ·rw[if_pos e] at hq'
    rw[e,decide_eq_false (List.lt_irrefl _)]; exact hq'
   ·rw[if_neg e] at hq'; exact hq'
end
end
section
section
variable {cx:Cx} {A:Around} {s s':Shared} {E:Value→Shared→Prop} {ρ:Nat→Addr} {H:Hp}
theorem Stp.putX(W)(I:Inv cx ρ H s){i:Nat}{o:AObj}(hi:i<H.n)(hs:Heap.ExtBut (ρ i) s.heap s'.heap)
  (ho:RepO cx.prog cx.w H.n ρ s'.heap (ρ i) o) (hos:s'.os=s.os) (hb:s'.gens=s.gens):Stp cx W ρ H s ρ (H.put i o) s':=by
 have K:Kp H.n ρ s.heap H.n ρ s'.heap:=⟨Nat.le_refl _,fun ι ι=>rfl,fun a o e hc=>hs a o (fun q=>I.notMut e hc i hi q.symm) e⟩
 refine ⟨⟨fun b o e=>hs b o (fun q => ?_) (I.keep b o e),hos.trans I.os,hb▸I.bare,fun j hj => ?_,I.inj,I.low,I.st,I.nsys⟩,Nat.le_refl _,fun ι ι=>rfl,fun i h1 h2=>absurd h2 (Nat.not_lt.mpr h1),fun a o e hm ι=>hs a o (fun q=>hm i hi q.symm) e,fun ι ι e=>hb▸e⟩
 ·subst q
  rw[I.low i hi] at e; first | contradiction | cases e
 ·show RepO _ _ H.n ρ _ (ρ j) (if j=i then o else H.f j)
  by_cases h:j=i
  ·subst h; rw[if_pos rfl]; exact ho
  ·rw[if_neg h]
   obtain ⟨ob,e,_⟩:=(I.objs j hj).some
   exact (I.objs j hj).mono K ((hs _ _ (fun q=>h (I.inj j i hj hi q)) e).trans e.symm)
theorem Kp.extBut(I:Inv cx ρ H s){i:Nat}(hi:i<H.n)(hs:Heap.ExtBut (ρ i) s.heap s'.heap):Kp H.n ρ s.heap H.n ρ s'.heap :=
 ⟨Nat.le_refl _,fun ι ι=>rfl,fun a o e hc=>hs a o (fun q=>I.notMut e hc i hi q.symm) e⟩
theorem p_sort{i:Nat}{xs ys:List V}{Q:Value→Shared→Prop}(hi:i<H.n)(e:H.f i = .list xs)(hl:SortV xs ys)(I:Inv cx ρ H s)
  (hQ:∀ s',Stp cx NoW ρ H s ρ (H.put i (.list ys)) s'→Q .none s'):wpAny cx.M A (call (.builtin "list.sort") [.ref (ρ i)]) Q E s:=by
 obtain ⟨vs,k,ho,q⟩:=I.list hi e
 refine wpAny_call_entry slot_list_sort ⟨_,ho,rfl⟩ entry_list_sort ?_ (args_list_sort _)
 refine s_sort (vs:=vs.toList) (n:=k) (xs:=xs) (by simpa using ho) q hl fun h' ws k' hx ho' hr=>⟨_,rfl,hQ _ (Stp.putX _ I hi hx ⟨ws,k',ho',?_⟩ rfl rfl)⟩
 exact hr _ _ _ (q.mono (Kp.extBut I hi hx))
theorem pairs_rep{n:Nat}{ρ:Nat→Addr}{h:Heap}{prog:Program}{w:World}{lo:Addr}{ps:List (Str×Value)}:∀ {kvs:List (Str×V)} {as:List Addr},ps.map (·.1)=kvs.map (·.1)→RepL n ρ h (ps.map (·.2)) (kvs.map (·.2)) →
  as.length=ps.length→(∀ (j:Nat) (a:Addr),as[j]? = some a→∃ key k x,ps[j]? = some (k,x)∧(PySem.strKind prog w).is k key=true∧h.get? a=some { cls := .type "tuple",data := .seq #[key,x] }) →
  RepL n ρ h (as.map Value.ref) (kvs.map fun p => .tup [.str p.1,p.2]):=by
 induction ps with
 | nil =>
  intro kvs as hn _ hl _
  cases List.map_eq_nil_iff.mp hn.symm
  cases List.length_eq_zero_iff.mp hl
  exact .nil
 | cons p ps ih =>
  intro kvs as hn r hl g
  cases kvs with
  | nil=>exact nomatch hn
  | cons q kvs =>
   cases as with
   | nil=>exact nomatch hl
   | cons a as =>
    obtain ⟨k,u⟩:=p
    obtain ⟨k',v⟩:=q
    obtain ⟨e,hn2⟩:=List.cons.inj hn
    have e:k=k':=e
    subst e
    cases r with | cons r1 r =>
    obtain ⟨key,k2,x,e1,e2,e3⟩:=g 0 a rfl
    obtain ⟨rfl,rfl⟩:=Prod.mk.inj (Option.some.inj e1)
    obtain ⟨t,rfl⟩:=str_of_is e2
    exact .cons (.tup e3 (.cons (.str _ _) (.cons r1 .nil))) (ih hn2 r (Nat.succ.inj hl) fun j b hj=>g (j+1) b hj)
theorem f_sorted{i:Nat}{kvs:List (Str×V)}{ys:List V}{v:Value}{Q:Value→Shared→Prop}(hh:A.handled=none)(e:H.f i = .dict kvs)(hl:SortV (kvs.map fun p => .tup [.str p.1,p.2]) ys)(I:Inv cx ρ H s)(rv:Rep H.n ρ s.heap v (.view i))
  (hQ:∀ v s' ρ',Stp cx NoW ρ H s ρ' (H.alloc (.list ys)) s'→Rep (H.n+1) ρ' s'.heap v (.ref H.n)→Q v s'):wpAny cx.M A (call (.builtin "sorted") [v]) Q E s:=by
 obtain ⟨hi,r,rfl,hr⟩:=rv.inv_view
 obtain ⟨ps,hd,hn,q⟩:=I.dict hi e
 obtain ⟨od,des,dep,hod,hex,hdd,hK,hP,hnd⟩:=id hd
 have hz:ps.length=kvs.length:=by have:=congrArg List.length hn; simpa using this
 have h64:kvs.length<64:=List.length_map (as:=kvs) _▸(Nat.lt_of_le_of_lt hl.few (by decide:5<64))
 refine Calls.call_function_entry kind_sorted plain_sorted entry_sorted (args_sorted1 _) ?_
 unfold Builtin.«sorted»
 refine wpAny_bind (m:=checkCount "sorted" 1 1 _) (wpAny_pure ?_)
 refine wpAny_bind (kdx_collect (knd:=PySem.strKind cx.prog cx.w) (d:=ρ i) (kvs:=ps) (ep:=dep) hh ⟨_,hr,rfl,rfl⟩ ⟨od,des,hod,hex,hdd,hK,hP,hnd⟩ (by rw[sizeLine_eq]; trivial) fun h' tk as hk hlen hG => ?_)
 have hx1:∀ b o,s.heap.get? b=some o→(h'.push { cls := .type "list",data := .seq (as.map Value.ref).toArray }).get? b=some o:=fun b o e=>Heap.get?_push_of_some _ (hk b o e)
 refine wpAny_bind (wpAny_newList ?_ (by rw[List.length_map,hlen,sizeLine_eq]; trivial))
 have rl:∀ h'',(∀ b o,h'.get? b=some o→h''.get? b=some o)→RepL H.n ρ h'' (as.map Value.ref) (kvs.map fun p => .tup [.str p.1,p.2]):=fun h'' hk'' =>
  pairs_rep (prog:=cx.prog) (w:=cx.w) (lo:=0) hn (q.mono ⟨Nat.le_refl _,fun ι ι=>rfl,fun a o e ι=>hk'' _ _ (hk _ _ e)⟩) hlen fun j a hj=>by
   obtain ⟨key,k,x,e1,e2,e3⟩:=hG.pairs j a hj
   exact ⟨key,k,x,e1,e2,hk'' _ _ e3⟩
 refine wpAny_bind (wpAny_holding (wpAny_call_entry slot_list_sort ⟨_,Heap.get?_push_size _ rfl,rfl⟩ entry_list_sort ?_ (args_list_sort _)))
 refine s_sort (H:=H) (ρ:=ρ) (xs:=kvs.map fun p => .tup [.str p.1,p.2]) (Heap.get?_push_size _ rfl) (rl _ fun b o e=>Heap.get?_push_of_some _ e) hl fun h2 ws k2 hx ho2 hr2=>⟨_,rfl,wpAny_pure ⟨_,rfl,?_⟩⟩
 have fr:∀ b o,s.heap.get? b=some o→b≠h'.objs.size:=fun b o e=>Nat.ne_of_lt (Heap.lt_size (hk b o e))
 have hfr:s.heap.get? h'.objs.size=none:=by
  cases e:s.heap.get? h'.objs.size with
  | none=>rfl
  | some o=>exact absurd rfl (fr _ _ e)
 have hk2:∀ b o,s.heap.get? b=some o→h2.get? b=some o:=fun b o e=>hx b o (fr b o e) (hx1 b o e)
 refine hQ _ _ (fun j=>if j=H.n then h'.objs.size else ρ j) (Stp.new _ I hfr (I.neX hk) hk2 ⟨ws,k2,ho2,?_⟩ rfl rfl) rep_new
 have rr:RepL H.n ρ h2 (as.map Value.ref) (kvs.map fun p => .tup [.str p.1,p.2]):=pairs_rep (prog:=cx.prog) (w:=cx.w) (lo:=0) hn (q.mono ⟨Nat.le_refl _,fun ι ι=>rfl,fun a o e ι=>hk2 _ _ e⟩) hlen fun j a hj=>by
   obtain ⟨key,k,x,e1,e2,e3⟩:=hG.pairs j a hj
   exact ⟨key,k,x,e1,e2,hx _ _ (Nat.ne_of_lt (Heap.lt_size e3)) (Heap.get?_push_of_some _ e3)⟩
 exact (hr2 _ _ _ rr).mono ⟨Nat.le_succ _,fun j hj=>if_neg (Nat.ne_of_lt hj),fun ι ι e ι=>e⟩
theorem f_sortedL{i:Nat}{xs ys:List V}{Q:Value→Shared→Prop}(_:A.handled=none)(hi:i<H.n)(e:H.f i = .list xs)(hl:SortV xs ys)(I:Inv cx ρ H s)
  (hQ:∀ v s' ρ',Stp cx NoW ρ H s ρ' (H.alloc (.list ys)) s'→Rep (H.n+1) ρ' s'.heap v (.ref H.n)→Q v s'):wpAny cx.M A (call (.builtin "sorted") [.ref (ρ i)]) Q E s:=by
 obtain ⟨⟨vs⟩,k,ho,q⟩:=I.list hi e
 have hvl:vs.length=xs.length:=q.length
 have h5:=hl.few
 have hL:s.heap.IsList (ρ i) vs.toArray:=⟨_,ho,rfl,_,rfl⟩
 refine Calls.call_function_entry kind_sorted plain_sorted entry_sorted (args_sorted1 _) ?_
 unfold Builtin.«sorted»
 refine wpAny_bind (m:=checkCount "sorted" 1 1 _) (wpAny_pure ?_)
 refine wpAny_bind (collect_list hL ?_ (by rw[sizeLine_eq]; trivial))
 refine wpAny_bind (wpAny_newList ?_ (by rw[sizeLine_eq]; trivial))
 generalize hh1:(s.heap.push (seqObj "list" #[] 0)).update s.heap.objs.size (Obj.mapSeq (· ++ vs.toArray))=h1
 have hsz:h1.objs.size=s.heap.objs.size+1:=by rw[← hh1,Heap.size_update,size_push']
 have k1:∀ b o,s.heap.get? b=some o→h1.get? b=some o:=fun b o q=>by
  have hlt:b<s.heap.objs.size:=Heap.lt_size q
  rw[← hh1,Heap.get?_update_ne _ _ _ _ (Nat.ne_of_lt hlt),Heap.get?_push_ne _ _ _ (Nat.ne_of_lt hlt)]; exact q
 show wpAny _ _ _ _ _ { s with heap:=h1.push (seqObj "list" vs.toArray 0) }
 have k2:∀ b o,s.heap.get? b=some o→(h1.push (seqObj "list" vs.toArray 0)).get? b=some o:=fun b o q=>Heap.get?_push_of_some _ (k1 b o q)
 have hoL:(h1.push (seqObj "list" vs.toArray 0)).get? h1.objs.size=some (seqObj "list" vs.toArray 0):=Heap.get?_push_size _ rfl
 have rl:∀ h'',(∀ b o,s.heap.get? b=some o→h''.get? b=some o)→RepL H.n ρ h'' vs xs:=fun h'' hk=>q.mono ⟨Nat.le_refl _,fun ι ι=>rfl,fun a o e ι=>hk a o e⟩
 refine wpAny_bind (wpAny_holding (wpAny_call_entry slot_list_sort ⟨_,hoL,rfl⟩ entry_list_sort ?_ (args_list_sort _)))
 refine s_sort (H:=H) (ρ:=ρ) (xs:=xs) hoL (rl _ k2) hl fun h2 ws k2' hx ho2 hr2=>⟨_,rfl,wpAny_pure ⟨_,rfl,?_⟩⟩
 have fr:∀ b o,s.heap.get? b=some o→b≠h1.objs.size:=fun b o e=>Nat.ne_of_lt (Heap.lt_size (k1 b o e))
 have hfr:s.heap.get? h1.objs.size=none:=by
  cases e:s.heap.get? h1.objs.size with
  | none=>rfl
  | some o=>exact absurd rfl (fr _ _ e)
 have hk2:∀ b o,s.heap.get? b=some o→h2.get? b=some o:=fun b o e=>hx b o (fr b o e) (k2 b o e)
 refine hQ _ _ (fun j=>if j=H.n then h1.objs.size else ρ j) (Stp.new _ I hfr (I.neX k1) hk2 ⟨ws,k2',ho2,?_⟩ rfl rfl) rep_new
 exact (hr2 _ _ _ (rl _ hk2)).mono ⟨Nat.le_succ _,fun j hj=>if_neg (Nat.ne_of_lt hj),fun ι ι e ι=>e⟩
theorem strs_rep{n:Nat}{ρ:Nat→Addr}{h:Heap}:∀ {l:List (Str×Tok)} {xs:List Str},l.map (·.1)=xs→RepL n ρ h (strValues l) (xs.map .str)
 | [],[],_ => .nil
 | (x,t)::l,y::xs,e=>by
  simp only[List.map_cons,List.cons.injEq] at e
  obtain ⟨rfl,e⟩:=e
  exact .cons (.str _ _) (strs_rep e)
 | [],_::_,e=>by simp at e
 | _::_,[],e=>by simp at e
open Builtin Builtin.Str in
theorem h_split{x y:Str}{k:Int}{t u v:Tok}{Q:Value→Shared→Prop}(hy:y.length≠0)(hx:x.length+2≤lim)(hk:0≤k∧k<1000)
  (hQ:∀ (l:List (Str×Tok)) tk,l.map (·.1)=Txt.splitMax x y k→Q (.ref s.heap.objs.size) { s with heap:=s.heap.push { cls := .type "list",data := .seq (strValues l).toArray },toks:=tk }) :
  wpAny cx.M A (call (.builtin "str.split") [.str x t,.str y u,.int k v]) Q E s:=by
 have hy':(y.length==0)=false:=by simpa using hy
 have hk':(decide (k < -(2 ^ 63:Int))||decide (k≥2 ^ 63))=false:=by simp; trivial
 have hz:x.length+2≤sizeLine:=by rw[← lim_eq]; exact hx
 have hn:(partsBetween x (occurrences x y 0 x.length (limitOf x k)) y.length).length≤sizeLine:=by
  have e1:=StrLaws.occ_length_le_len x y 0 x.length (limitOf x k)
  rw[length_partsBetween]; trivial
 cases h1:(decide (x.length<y.length)||decide (Builtin.Str.strKind x<Builtin.Str.strKind y))
 ·cases hf:(occurrences x y 0 x.length (limitOf x k)).isEmpty
  ·refine call_meets F.slot_str_split (typeIs_str _ _ _) F.entry_str_split (F.args_str_split_3 _ _ _) (meets_str_split_sep_max x y k t u v hk' h1 hy' hf (by trivial) hn) ?_
   show wants Q E _ { s with toks:=_,heap:=s.heap.push { cls := .type "list",data := .seq (strsFrom s.toks (partsBetween x (occurrences x y 0 x.length (limitOf x k)) y.length)).toArray } }
   rw[strsFrom_eq]
   exact hQ (numbered s.toks _) _ ((numbered_texts _ _).trans ((if_neg (ne_true_of_eq_false h1)).trans (if_neg (ne_true_of_eq_false hf))).symm)
  ·exact call_meets F.slot_str_split (typeIs_str _ _ _) F.entry_str_split (F.args_str_split_3 _ _ _) (meets_str_split_max_not_found x y k t u v hk' h1 hy' hf)
    (hQ [(x,t)] s.toks ((if_neg (ne_true_of_eq_false h1)).trans (if_pos hf)).symm)
 ·exact call_meets F.slot_str_split (typeIs_str _ _ _) F.entry_str_split (F.args_str_split_3 _ _ _) (meets_str_split_max_cannot_occur x y k t u v hk' h1)
   (hQ [(x,t)] s.toks (if_pos h1).symm)
open Builtin Builtin.Str in
theorem h_split1{x y:Str}{t u:Tok}{Q:Value→Shared→Prop}(hy:y.length≠0)(hx:x.length+2≤lim)
  (hQ:∀ (l:List (Str×Tok)) tk,l.map (·.1)=Txt.split x y→Q (.ref s.heap.objs.size) { s with heap:=s.heap.push { cls := .type "list",data := .seq (strValues l).toArray },toks:=tk }) :
  wpAny cx.M A (call (.builtin "str.split") [.str x t,.str y u]) Q E s:=by
 have hy':(y.length==0)=false:=by simpa using hy
 have hz:x.length+2≤sizeLine:=by rw[← lim_eq]; exact hx
 have hn:(partsBetween x (occurrences x y 0 x.length (x.length+1)) y.length).length≤sizeLine:=by
  have e1:=StrLaws.occ_length_le_len x y 0 x.length (x.length+1)
  rw[length_partsBetween]; trivial
 cases h1:(decide (x.length<y.length)||decide (Builtin.Str.strKind x<Builtin.Str.strKind y))
 ·cases hf:(occurrences x y 0 x.length (x.length+1)).isEmpty
  ·refine call_meets F.slot_str_split (typeIs_str _ _ _) F.entry_str_split (F.args_str_split_2 _ _) (meets_str_split_sep x y t u h1 hy' hf (by trivial) hn) ?_
   show wants Q E _ { s with toks:=_,heap:=s.heap.push { cls := .type "list",data := .seq (strsFrom s.toks (partsBetween x (occurrences x y 0 x.length (x.length+1)) y.length)).toArray } }
   rw[strsFrom_eq]
   exact hQ (numbered s.toks _) _ ((numbered_texts _ _).trans ((if_neg (ne_true_of_eq_false h1)).trans (if_neg (ne_true_of_eq_false hf))).symm)
  ·exact call_meets F.slot_str_split (typeIs_str _ _ _) F.entry_str_split (F.args_str_split_2 _ _) (meets_str_split_not_found x y t u h1 hy' hf)
    (hQ [(x,t)] s.toks ((if_neg (ne_true_of_eq_false h1)).trans (if_pos hf)).symm)
 ·exact call_meets F.slot_str_split (typeIs_str _ _ _) F.entry_str_split (F.args_str_split_2 _ _) (meets_str_split_cannot_occur x y t u h1)
   (hQ [(x,t)] s.toks (if_pos h1).symm)
open Builtin Builtin.Str in
theorem h_rsplit{x y:Str}{k:Int}{t u v:Tok}{Q:Value→Shared→Prop}(hy:y.length≠0)(hx:x.length+2≤lim)(hk:0≤k∧k<1000)
  (hQ:∀ (l:List (Str×Tok)) tk,l.map (·.1)=Txt.rsplitMax x y k→Q (.ref s.heap.objs.size) { s with heap:=s.heap.push { cls := .type "list",data := .seq (strValues l).toArray },toks:=tk }) :
  wpAny cx.M A (call (.builtin "str.rsplit") [.str x t,.str y u,.int k v]) Q E s:=by
 have hy':(y.length==0)=false:=by simpa using hy
 have hk':(decide (k < -(2 ^ 63:Int))||decide (k≥2 ^ 63))=false:=by simp; trivial
 have hz:x.length+2≤sizeLine:=by rw[← lim_eq]; exact hx
 have hn:(partsBetween x (occurrencesFromRight x y (limitOf x k)) y.length).length≤sizeLine:=by
  have e1:=StrLaws.occR_length_le_len x y (limitOf x k)
  rw[length_partsBetween]; trivial
 cases h1:(decide (x.length<y.length)||decide (Builtin.Str.strKind x<Builtin.Str.strKind y))
 ·cases hf:(occurrencesFromRight x y (limitOf x k)).isEmpty
  ·refine call_meets F.slot_str_rsplit (typeIs_str _ _ _) F.entry_str_rsplit (F.args_str_rsplit_3 _ _ _) (meets_str_rsplit_sep_max x y k t u v hk' h1 hy' hf (by trivial) hn) ?_
   show wants Q E _ { s with toks:=_,heap:=s.heap.push { cls := .type "list",data := .seq (strsFrom s.toks (partsBetween x (occurrencesFromRight x y (limitOf x k)) y.length)).toArray } }
   rw[strsFrom_eq]
   exact hQ (numbered s.toks _) _ ((numbered_texts _ _).trans ((if_neg (ne_true_of_eq_false h1)).trans (if_neg (ne_true_of_eq_false hf))).symm)
  ·exact call_meets F.slot_str_rsplit (typeIs_str _ _ _) F.entry_str_rsplit (F.args_str_rsplit_3 _ _ _) (meets_str_rsplit_max_not_found x y k t u v hk' h1 hy' hf)
    (hQ [(x,t)] s.toks ((if_neg (ne_true_of_eq_false h1)).trans (if_pos hf)).symm)
 ·exact call_meets F.slot_str_rsplit (typeIs_str _ _ _) F.entry_str_rsplit (F.args_str_rsplit_3 _ _ _) (meets_str_rsplit_max_cannot_occur x y k t u v hk' h1)
   (hQ [(x,t)] s.toks (if_pos h1).symm)
theorem new_strs{l:List (Str×Tok)}{xs:List Str}{tk:Nat}{Q:Value→Shared→Prop}(I:Inv cx ρ H s)(e:l.map (·.1)=xs)
  (hQ:∀ v s' ρ',Stp cx NoW ρ H s ρ' (H.alloc (.list (xs.map .str))) s'→Rep (H.n+1) ρ' s'.heap v (.ref H.n)→Q v s'):Q (.ref s.heap.objs.size) { s with heap:=s.heap.push { cls := .type "list",data := .seq (strValues l).toArray },toks:=tk } :=
 hQ _ _ (fun j=>if j=H.n then s.heap.objs.size else ρ j) (Stp.new _ I (get?_size _) I.neS (fun ι ι e=>Heap.get?_push_of_some _ e) ⟨_,_,Heap.get?_push_size _ rfl,strs_rep e⟩ rfl rfl) rep_new
end
end
section
section
variable {pe:Pe} {cx:Cx} {n:Nat} {sc:Sc} {loc:Loc} {H H':Hp} {x:V}
theorem kin_at(P:PeOk pe cx){ρ s}(I:Inv cx ρ H s):cx.K.In s.heap:=P.kin.keeps I.keep
theorem kpr_of(P:PeOk pe cx){ρ:Nat→Addr}{s:Shared}{fv:Value}{first:List Value}{g:V}(I:Inv cx ρ H s)(c:Cal H.n ρ s.heap fv first g)(hc:callable pe g=true):Kpr cx fv s:=by
 have fn:∀ {a:Addr} {fd:FuncData},pe.fn a=some fd→∀ {A:Around} {Q:Keeper→Shared→Prop} {E:Value→Shared→Prop},(∀ k,Q k s)→wpAny cx.M A (keeperOf (.ref a)) Q E s:=fun {a fd} hf {A Q E} hQ=>by
  obtain ⟨o,ho,hd⟩:=(P.fn hf).obj
  unfold keeperOf
  refine wpAny_bind (wpAny_load (I.keep _ _ ho) ?_)
  rw[hd]
  exact wpAny_pure (hQ _)
 cases c with
 | bm _=>intro A Q E hQ; exact wpAny_pure (hQ _)
 | mt _ =>
  obtain ⟨fd,hf⟩:=Option.isSome_iff_exists.mp hc
  intro A Q E hQ; exact fn hf hQ
 | obj rp =>
  cases rp with
  | none=>exact @noB _ hc
  | bool=>exact @noB _ hc
  | int=>exact @noB _ hc
  | str=>exact @noB _ hc
  | ref=>exact @noB _ hc
  | tup=>exact @noB _ hc
  | view=>exact @noB _ hc
  | bf b=>intro A Q E hQ; obtain ⟨t,n,_⟩:=b; cases t <;> exact wpAny_pure (hQ _)
  | bm hp e q =>
   intro A Q E hQ
   unfold keeperOf
   refine wpAny_bind (wpAny_load e ?_)
   exact wpAny_pure (hQ _)
  | fn a =>
   rcases Bool.or_eq_true_iff.mp hc with hc | hc
   ·obtain ⟨fd,hf⟩:=Option.isSome_iff_exists.mp hc
    intro A Q E hQ; exact fn hf hQ
   ·obtain ⟨g,hg⟩:=Option.isSome_iff_exists.mp hc
    have M:=makes_of (M:=cx.M) (kin_at P I) (P.init hg).1
    obtain ⟨oc,od,cd,sl,ho,_⟩:=M.obj
    intro A Q E hQ
    unfold keeperOf
    refine wpAny_bind (wpAny_load ho ?_)
    refine wpAny_bind (M.call.here ?_)
    exact wpAny_pure (hQ _)
  | mt e q =>
   obtain ⟨fd,hf⟩:=Option.isSome_iff_exists.mp hc
   obtain ⟨o,ho,hd⟩:=(P.fn hf).obj
   intro A Q E hQ
   unfold keeperOf
   refine wpAny_bind (wpAny_load e ?_)
   refine wpAny_bind (wpAny_load (I.keep _ _ ho) ?_)
   exact wpAny_pure (hQ _)
theorem Cal.step{ρ s ρ' s'}(I:Inv cx ρ H s)(S:Stp cx NoW ρ H s ρ' H' s'){fv first g}(c:Cal H.n ρ s.heap fv first g):Cal H'.n ρ' s'.heap fv first g:=by
 cases c with
 | obj a=>exact .obj (S.rep I a)
 | mt a=>exact .mt (S.rep I a)
 | bm a=>exact .bm (S.rep I a)
theorem base_of{o:Expr}{name:Str}{env:Env}{m:Sem Value}(h:isSuper o=false):attributeBase o name env m=m:=by
 cases o with
 | Call f a k p=>cases f with
  | Name id q=>cases a with
   | nil=>cases k with
    | nil =>
     have hid:(!(id==("super":Str)))=true:=congrArg (!·) h
     show (if (!(id==("super":Str))||_||_||_)=true then m else _)=m
     rw[hid]; rfl
    | cons=>rfl
   | cons=>rfl
  | _=>rfl
 | _=>rfl
theorem callWith_sound(P:PeOk pe cx){A:Around}{env:Env}{pos:Pos}{g:V}{args:List Expr}{kws:List Keyword}{H1 H2:Hp}{xs:List V}{kx:List (Str×V)}{ρ s fv first}{Q:Value→Shared→Prop}{E}
  (hc:callable pe g=true) (h1:GL cx n sc loc args H xs H1) (h2:GKw cx n sc loc kws H1 kx H2) (h3:GCall cx n g xs kx H2 x H')
  (C:Cn cx n sc loc H A env ρ s) (c:Cal H.n ρ s.heap fv first g) (hQ:∀ v s' ρ',Stp cx NoW ρ H s ρ' H' s'→Rep H'.n ρ' s'.heap v x→Q v s') :
  wpAny cx.M A (callWith pos fv first (backTo pos (starEach args env)) (backToKw pos (keywordEach kws env))) Q E s :=
 s_callWith (evalArgs_sound h1 h2 C fun a s1 ρ1 S1 ra rk=>⟨kpr_of P S1.inv (c.step C.inv S1) hc,h3 C.ar S1.inv (c.step C.inv S1) ra rk fun v s2 ρ2 S2 r2=>hQ v s2 ρ2 (S1.trans S2) r2⟩)
theorem few_of{k:Nat}{args:List (Bool×Sem Value)}{kws:List (Option Str×Sem Value)}(h1:args.all (fun p => !p.1)=true)(h2:kws.all (·.1.isSome)=true)(h:k≤25):methodCallForm k args kws=true:=by
 unfold methodCallForm
 rw[h1,h2]
 simp only[Bool.and_self,Bool.true_and,decide_eq_true_eq]
 split <;> trivial
theorem pos_of{o:Expr}{env:Env}{apos pos:Pos}(hl:apos.endLine=pos.line):methodCallPos true o env apos pos=pure pos:=by
 unfold methodCallPos
 rw[hl]; simp
theorem e_CallA(P:PeOk pe cx){o:Expr}{name:Str}{apos pos:Pos}{args:List Expr}{kws:List Keyword}{H1 H2 H3:Hp}{u g:V}{xs:List V}{kx:List (Str×V)}(hp:apos.endLine=pos.line)(hs:isSuper o=false)(hl:args.length+kws.length≤25)
  (h1:GE cx n sc loc o H u H1) (hg:attr pe H1 name u=some g) (hc:callable pe g=true) (h2:GL cx n sc loc args H1 xs H2) (h3:GKw cx n sc loc kws H2 kx H3) (h4:GCall cx n g xs kx H3 x H'):GE cx (n+1) sc loc (.Call (.Attribute o name apos) args kws pos) H x H':=fun {A env ρ s Q E} C hQ=>by
 rw[arm_eval_Call,base_of hs]
 refine wpAny_bind (h1 C.low fun u' s1 ρ1 S1 r1=>wpAny_bind (wpAny_standAt ?_))
 unfold methodCall
 rw[few_of (h2.1 pos env) (h3.1 pos env).1 hl]
 refine wpAny_bind (wpAny_holding ?_)
 show wpAny _ _ (getMethod u' name _) _ _ _
 refine s_getMethod P hg S1.inv r1 fun f first s2 S2 c => ?_
 dsimp only
 rw[pos_of hp]
 exact wpAny_bind (wpAny_pure (callWith_sound P hc h2 h3 h4 ((C.low.step S1).step S2) c fun v s3 ρ3 S3 r3=>hQ v s3 ρ3 ((S1.trans S2).trans S3) r3))
theorem e_CallN(P:PeOk pe cx){f:Str}{fp pos:Pos}{args:List Expr}{kws:List Keyword}{H2 H3:Hp}{g:V}{xs:List V}{kx:List (Str×V)}(hg:look pe sc loc f=some g)(hc:callable pe g=true)(h2:GL cx n sc loc args H xs H2)(h3:GKw cx n sc loc kws H2 kx H3)(h4:GCall cx n g xs kx H3 x H'):
  GE cx (n+1) sc loc (.Call (.Name f fp) args kws pos) H x H':=fun {A env ρ s Q E} C hQ =>
 wpAny_Call_ofName (s_Name P hg C.en C.inv C.vars fun fv rf=>callWith_sound P hc h2 h3 h4 C.low (.obj rf) hQ)
end
end
section
structure IsLam (params:Arguments) (body:Expr) (scope:Scope):Prop where
 ex:Ex9 fun ann np ap cp k1 p1 k2 p2 more=>params=⟨[],[⟨"n",none,ann⟩],none,[],[],none,[]⟩∧body = .Call (.Attribute (.Name "n" np) "split" ap) [.Constant (.str brace) k1 p1,.Constant (.int 1) k2 p2] [] cp ∧
  scope=⟨.function,[("n",.local)],false,false,more⟩∧ap.endLine=cp.line
theorem bind_lam{ann:Pos}{body:Expr}{sc:Scope}{q:Str}{pm cv ct v:Value}:bindArgs (kla_fn "<lambda>" q ⟨[],[⟨"n",none,ann⟩],none,[],[],none,[]⟩ body sc [] pm cv ct) ⟨[v],[]⟩=pure [((Str.ofString "n"),v)]:=by
 first | rfl | kernel_rfl
section
variable {cx:Cx} {A:Around} {s:Shared} {E:Value→Shared→Prop}
theorem meth_str{o:Expr}{name:Str}{apos pos:Pos}{args:List Expr}{env:Env}{x:Str}{t:Tok}{id:String}{Q:Value→Shared→Prop}(slot:Slot "str" name id)(ty:typeOf (.builtin id)=pure (.type "method_descriptor"))(hs:isSuper o=false)
  (hfew:methodCallForm (args.length+([]:List Keyword).length) (backTo pos (starEach args env)) (backToKw pos (keywordEach [] env))=true) (hl:apos.endLine=pos.line)
  (ho:wpAny cx.M A (eval o env) (fun v s₁=>v = .str x t∧wpAny cx.M A (evalArgs (.builtin id) true (backTo pos (starEach args env)) (backToKw pos (keywordEach [] env))) (fun a s₂=>wpAny cx.M A (call (.builtin id) ([.str x t]++a.pos) a.kw) Q E s₂) E s₁) E s) :
  wpAny cx.M A (eval (.Call (.Attribute o name apos) args [] pos) env) Q E s:=by
 rw[arm_eval_Call,base_of hs]
 refine wpAny_bind (wpAny_mono ho (fun v s1 h1=>wpAny_bind (wpAny_standAt ?_)) fun ι ι e=>e)
 obtain ⟨e,h1⟩:=h1
 have key:∀ (pl:Sem Bool) (Q':Value×List Value→Shared→Prop),Q' (.builtin id,[.str x t]) s1→wpAny cx.M A (getMethod v name pl) Q' E s1:=fun pl Q' hq=>by
  rw[e]; with_reducible exact gm_str slot ty hq
 unfold methodCall
 rw[hfew]
 refine wpAny_bind (wpAny_holding ?_)
 show wpAny _ _ (getMethod v name _) _ _ _
 refine key _ _ ?_
 dsimp only
 refine wpAny_bind ?_
 have ep:methodCallPos true o env apos pos=pure pos:=by
  unfold methodCallPos
  rw[hl]; simp
 rw[ep]
 refine wpAny_pure (s_callWith (wpAny_mono h1 (fun a s2 h2=>⟨?_,h2⟩) fun ι ι e=>e))
 intro A Q E hQ; exact wpAny_pure (hQ _)
theorem lam_call(hnl:s.heap.NoLimit)(hA:A.depth+2<1000){fa:Addr}{params:Arguments}{body:Expr}{scope:Scope}{q:Str}{pm cv ct:Value}(L:IsLam params body scope)
  (ho:s.heap.get? fa=some { cls := .type "function",data := .func (kla_fn "<lambda>" q params body scope [] pm cv ct) }) (hc:s.heap.CodeRec cv q) {x:Str} {t:Tok} (hx:x.length+2≤lim) {Q:Value→Shared→Prop}
  (hQ:∀ (l:List (Str×Tok)) (s':Shared) (a:Addr),l.map (·.1)=nameKey x→(∀ b o,s.heap.get? b=some o→s'.heap.get? b=some o)→s.heap.get? a=none→s'.heap.get? a=some { cls := .type "list",data := .seq (strValues l).toArray }→s'.os=s.os→s'.gens=s.gens→Q (.ref a) s') :
  wpAny cx.M A (call (.ref fa) [.str x t]) Q E s:=by
 obtain ⟨ann,np,ap,cp,k1,p1,k2,p2,more,rfl,rfl,rfl,hap⟩:=L.ex
 refine wpAny_call (kla_callFunE (by simp only[recursionLimit]; trivial) ho rfl rfl rfl rfl hc ?_)
 rw[bind_lam]
 refine wpAny_pure (wpAny_newFunctionEnv (by simp) (by simp) (fun h₁ hns hsb=>⟨hnl.fresh _ hsb,?_⟩) rfl)
 have hk₁:∀ b o,s.heap.get? b=some o→h₁.get? b=some o:=fun b o e=>hsb.extBut b o (Nat.ne_of_lt (Heap.lt_size e)) (Heap.get?_push_of_some _ e)
 refine kla_codeExpr ?_
 have hkd:(newEnv ⟨.function,[("n",.local)],false,false,more⟩ s.heap.objs.size mainGlobals [] (q++".<locals>.") (some fa) cv none builtinsNs).kindOf "n"=some .local:=rfl
 have hkf:(newEnv ⟨.function,[("n",.local)],false,false,more⟩ s.heap.objs.size mainGlobals [] (q++".<locals>.") (some fa) cv none builtinsNs).scope.kind = .function:=rfl
 have hlc:(newEnv ⟨.function,[("n",.local)],false,false,more⟩ s.heap.objs.size mainGlobals [] (q++".<locals>.") (some fa) cv none builtinsNs).locals=s.heap.objs.size:=rfl
 show wpAny _ _ (eval _ (newEnv ⟨.function,[("n",.local)],false,false,more⟩ s.heap.objs.size mainGlobals [] (q++".<locals>.") (some fa) cv none builtinsNs)) _ _ _
 generalize newEnv ⟨.function,[("n",.local)],false,false,more⟩ s.heap.objs.size mainGlobals [] (q++".<locals>.") (some fa) cv none builtinsNs=env at hkd hkf hlc ⊢
 rw[← hlc] at hns
 have hm:([((Str.ofString "n"),Value.str x t)]:List (Str×Value)).reverse.lookup (Str.ofString "n")=some (.str x t):=by simp
 refine meth_str (x:=x) (t:=t) F.slot_str_split F.type_str_split rfl rfl hap (wpAny_Name (wpAny_loadName_local hkf hkd hns hm ?_) (by decide))
 refine ⟨rfl,?_⟩
 refine evalArgs_kw2 rfl ?_
 have c1:∀ {s':Shared} {Q':Value→Shared→Prop} {E'},Q' (.str brace s'.toks) { s' with toks:=s'.toks+1 }→wpAny cx.M (A.deeper env) (eval (.Constant (.str brace) k1 p1) env) Q' E' s':=fun hq=>by
  rw[eval_Constant]; exact fun ι ι ι=>hq
 have c2:∀ {s':Shared} {Q':Value→Shared→Prop} {E'},Q' (.int 1 s'.toks) { s' with toks:=s'.toks+1 }→wpAny cx.M (A.deeper env) (eval (.Constant (.int 1) k2 p2) env) Q' E' s':=fun hq=>by
  rw[eval_Constant]; exact fun ι ι ι=>hq
 refine Calls.spliced_cons (c1 ?_)
 refine Calls.spliced_cons (c2 ?_)
 refine Calls.spliced_nil ?_
 refine kwAll_nil ?_
 refine h_split (by decide) hx (by decide) fun l tk hl => ?_
 refine hQ l _ _ hl (fun b o e=>Heap.get?_push_of_some _ (hk₁ b o e)) ?_ (Heap.get?_push_size _ rfl) rfl rfl
 cases e:s.heap.get? h₁.objs.size with
 | none=>rfl
 | some o=>exact absurd (Heap.lt_size (hk₁ _ _ e)) (Nat.lt_irrefl _)
end
end
section
section
variable {cx:Cx} {A:Around} {s:Shared} {E:Value→Shared→Prop}
theorem lt_loop{a b:Addr}{l m:List (Str×Tok)}{j k:Nat}(ha:s.heap.get? a=some { cls := .type "list",data := .seq (strValues l).toArray j })(hb:s.heap.get? b=some { cls := .type "list",data := .seq (strValues m).toArray k }){R:Result→Shared→Prop}:
  ∀ (n i:Nat),l.length-i=n→i≤l.length→R (.ok (.ret (.bool (ltK ((l.drop i).map (·.1)) ((m.drop i).map (·.1)))))) s →
   codeAny cx.M A (.builtin "list.__eq__.loop" ⟨[.ref a,.ref b,rawInt i,rawInt 0],[]⟩) R s:=by
 have gv:∀ (l:List (Str×Tok)) (i:Nat),(strValues l).toArray[i]? = (l[i]?).map fun p=>Value.str p.1 p.2:=fun l i=>by rw[strValues_eq]; simp
 have gz:∀ (l:List (Str×Tok)),(strValues l).toArray.size=l.length:=fun l=>by rw[strValues_eq]; simp
 intro n
 induction n with
 | zero =>
  intro i hn hil' h
  refine codeAny_builtin MeetsSeq3.entry_eq_loop ?_
  rw[Around.under_plainId MeetsSeq3.plain_eq_loop _]
  unfold Builtin.«list.__eq__.loop»
  have hi:l.length≤i:=by trivial
  dsimp only[rawInt]
  show wpAny _ _ (Builtin.List.listItems (.ref a) >>= _) _ _ _
  refine wpAny_bind (listItems_at ha rfl (wpAny_bind (listItems_at hb rfl ?_)))
  rw[show (strValues l).toArray[((i:Nat):Int).toNat]? = none by rw[Int.toNat_natCast,gv,List.getElem?_eq_none hi]; rfl]
  refine wpAny_bind (listItems_at ha rfl (wpAny_bind (listItems_at hb rfl ?_)))
  refine wpAny_pure ?_
  show R (.ok (.ret (.bool (decide ((strValues l).toArray.size<(strValues m).toArray.size))))) s
  rw[gz,gz]
  rw[List.drop_eq_nil_of_le hi,List.map_nil] at h
  cases hm:m.drop i with
  | nil =>
   rw[hm] at h
   have:m.length≤i:=List.drop_eq_nil_iff.mp hm
   have e:decide (l.length<m.length)=false:=decide_eq_false (Nat.not_lt.mpr (Nat.le_trans this hil'))
   rw[e]; exact h
  | cons p q =>
   rw[hm] at h
   have:i<m.length:=by
    rcases Nat.lt_or_ge i m.length with h | h
    ·exact h
    ·rw[List.drop_eq_nil_of_le h] at hm; first | contradiction | cases hm
   have e:decide (l.length<m.length)=true:=decide_eq_true (Nat.lt_of_le_of_lt hi this)
   rw[e]; exact h
 | succ n ih =>
  intro i hn hil' h
  have hil:i<l.length:=by trivial
  refine codeAny_builtin MeetsSeq3.entry_eq_loop ?_
  rw[Around.under_plainId MeetsSeq3.plain_eq_loop _]
  unfold Builtin.«list.__eq__.loop»
  dsimp only[rawInt]
  show wpAny _ _ (Builtin.List.listItems (.ref a) >>= _) _ _ _
  refine wpAny_bind (listItems_at ha rfl (wpAny_bind (listItems_at hb rfl ?_)))
  rw[List.drop_eq_getElem_cons hil,List.map_cons] at h
  by_cases him:i<m.length
  ·rw[List.drop_eq_getElem_cons him,List.map_cons] at h
   have el:(strValues l).toArray[((i:Nat):Int).toNat]? = some (.str l[i].1 l[i].2):=by rw[Int.toNat_natCast,gv,List.getElem?_eq_getElem hil]; rfl
   have em:(strValues m).toArray[((i:Nat):Int).toNat]? = some (.str m[i].1 m[i].2):=by rw[Int.toNat_natCast,gv,List.getElem?_eq_getElem him]; rfl
   rw[el,em]
   refine wpAny_bind (PyProof.Rows.eqBool_str ?_)
   replace h:R (.ok (.ret (.bool (if l[i].1=m[i].1 then ltK _ _ else ltS _ _)))) s:=h
   by_cases he:l[i].1=m[i].1
   ·rw[if_pos he] at h
    refine wiT (beq_iff_eq.mpr he) (wpAny_pure ⟨plainId_quiet MeetsSeq3.plain_eq_loop _,ih (i+1) (by trivial) (by trivial) h⟩)
   ·refine wiF (ne_true_of_eq_false (beq_false_of_ne he)) ?_
    refine wpAny_bind (listItems_at ha rfl (wpAny_bind (listItems_at hb rfl ?_)))
    rw[if_neg he] at h
    rw[el,em]
    show wpAny _ _ (richCompare .Lt (.str l[i].1 l[i].2) (.str m[i].1 m[i].2) >>= _) _ _ _
    exact wpAny_bind (PyProof.Rows.lt_str (wpAny_pure h))
  ·have hm:m.length≤i:=by trivial
   rw[List.drop_eq_nil_of_le hm] at h
   rw[show (strValues l).toArray[((i:Nat):Int).toNat]? = some (.str l[i].1 l[i].2) by rw[Int.toNat_natCast,gv,List.getElem?_eq_getElem hil]; rfl,show (strValues m).toArray[((i:Nat):Int).toNat]? = none by rw[Int.toNat_natCast,gv,List.getElem?_eq_none hm]; rfl]
   refine wpAny_bind (listItems_at ha rfl (wpAny_bind (listItems_at hb rfl ?_)))
   refine wpAny_pure ?_
   show R (.ok (.ret (.bool (decide ((strValues l).toArray.size<(strValues m).toArray.size))))) s
   rw[gz,gz,show decide (l.length<m.length)=false by simp; trivial]
   exact h
theorem lt_list{a b:Addr}{l m:List (Str×Tok)}{j k:Nat}(hu:A.units<cLine)(ha:s.heap.get? a=some { cls := .type "list",data := .seq (strValues l).toArray j })(hb:s.heap.get? b=some { cls := .type "list",data := .seq (strValues m).toArray k }){Q:Bool→Shared→Prop}
  (h:Q (ltK (l.map (·.1)) (m.map (·.1))) s):wpAny cx.M A (keyLt' oneType' (.ref a) (.ref b)) Q E s:=by
 have hTa:s.TypeIs (.ref a) "list":=⟨_,ha,rfl⟩
 have hTb:s.TypeIs (.ref b) "list":=⟨_,hb,rfl⟩
 rw[keyLt'_oneType,oneLt'_eq]
 refine wiT rfl ?_
 refine wpAny_bind (wpAny_cRoomFor hu ?_)
 refine wpAny_bind (wpAny_callSpecialIfBound?_slot hTa F.slot_list_lt ?_)
 refine wpAny_call (codeAny_call_builtin F.slot_list_lt.plain F.entry_list_lt (F.slot_list_lt.check _ _ _ _ _ _ _ _ hTa (F.args_list_lt_2 _ _) ?_))
 show wpAny _ _ (isInstance (.ref b) (.type "list") >>= fun t=>if (!t)=true then ret .notImplemented else again (.builtin "list.__eq__.loop" ⟨[.ref a,.ref b,rawInt (0:Nat),rawInt 0],[]⟩)) _ _ _
 refine wpAny_bind (wpAny_isInstance hTb AutoSeq1.sub_list_list ?_)
 refine wiF Bool.false_ne_true ?_
 refine wpAny_pure ⟨plainId_quiet MeetsSeq3.plain_eq_loop _,lt_loop ha hb _ 0 rfl (Nat.zero_le _) ?_⟩
 exact wpAny_truthy_bool h
end
end
theorem map_pick{xs:List Str}{p:List Nat}(h:∀ i∈p,i<xs.length):(p.map fun i=>(xs.map V.str).getD i .none)=(p.map fun i=>xs.getD i Str.empty).map .str:=by
 rw[List.map_map]
 refine List.map_congr_left fun i hi => ?_
 show (xs.map V.str).getD i .none = .str (xs.getD i Str.empty)
 rw[List.getD_eq_getElem?_getD,List.getElem?_map,List.getElem?_eq_getElem (h i hi),List.getD_eq_getElem?_getD,List.getElem?_eq_getElem (h i hi)]; rfl
section
section
variable {cx:Cx} {A:Around} {s:Shared} {E:Value→Shared→Prop}
noncomputable def KeysAt(h:Heap):List Value→List Str→Prop
 | [],[]=>True
 | k::ks,x::xs=>(Ex2 fun b l=>k = .ref b∧h.get? b=some { cls := .type "list",data := .seq (strValues l).toArray }∧l.map (·.1)=nameKey x)∧KeysAt h ks xs
 | _,_=>False
theorem KeysAt.keep{h h':Heap}(kS:Addr)(hk:∀ b o,b≠kS→h.get? b=some o→h'.get? b=some o){ks:List Value}:∀ {xs},(∀ k∈ks,k≠Value.ref kS)→KeysAt h ks xs→KeysAt h' ks xs:=by
 induction ks with
 | nil=>exact fun {xs} ι r=>(by cases xs with
  | nil=>trivial
  | cons x xs=>exact r.elim)
 | cons k ks ih=>intro xs hn r; cases xs with
  | nil=>exact r.elim
  | cons x xs =>
   obtain ⟨⟨b,l,e1,e2,e3⟩,r⟩:=r
   exact ⟨⟨b,l,e1,hk b _ (fun q=>hn k (.head _) (by rw[e1,q])) e2,e3⟩,ih (fun k' hk'=>hn k' (.tail _ hk')) r⟩
theorem KeysAt.snoc{h:Heap}{b:Addr}{l:List (Str×Tok)}{x:Str}(e2:h.get? b=some { cls := .type "list",data := .seq (strValues l).toArray })(e3:l.map (·.1)=nameKey x):∀ {ks xs},KeysAt h ks xs→KeysAt h (ks++[.ref b]) (xs++[x])
 | [],[],_=>⟨⟨b,l,rfl,e2,e3⟩,trivial⟩
 | _::_,_::_,⟨a,r⟩=>⟨a,KeysAt.snoc e2 e3 r⟩
theorem KeysAt.length{h:Heap}:∀ {ks xs},KeysAt h ks xs→ks.length=xs.length
 | [],[],_=>rfl
 | _::_,_::_,⟨_,r⟩=>by simp [KeysAt.length r]
theorem KeysAt.get{h:Heap}{ks:List Value}:∀ {xs},KeysAt h ks xs→∀ i,i<ks.length→Ex2 fun b l=>ks.getD i .none = .ref b∧h.get? b=some { cls := .type "list",data := .seq (strValues l).toArray }∧l.map (·.1)=nameKey (xs.getD i Str.empty):=by
 induction ks with
 | nil=>exact fun ι i hi=>absurd hi (Nat.not_lt_zero i)
 | cons k ks ih=>intro xs r i hi; cases xs with
  | nil=>exact r.elim
  | cons x xs=>cases i with
   | zero=>exact r.1
   | succ i=>exact ih r.2 i (Nat.lt_of_succ_lt_succ hi)
noncomputable def StrsL:List Value→List Str→Prop
 | [],[]=>True
 | v::vs,x::xs=>(∃ t,v = .str x t)∧StrsL vs xs
 | _,_=>False
theorem StrsL.rep{n ρ h}:∀ {vs xs},StrsL vs xs→RepL n ρ h vs (xs.map .str)
 | [],[],_ => .nil
 | _::_,_::_,⟨⟨t,e⟩,r⟩=>by subst e; exact .cons (.str _ _) r.rep
theorem StrsL.length:∀ {vs xs},StrsL vs xs→vs.length=xs.length
 | [],[],_=>rfl
 | _::_,_::_,⟨_,r⟩=>by simp [StrsL.length r]
structure LamAt (h:Heap) (fa:Addr):Prop where
 ex:Ex7 fun params body scope q pm cv ct=>IsLam params body scope∧h.get? fa=some { cls := .type "function",data := .func (kla_fn "<lambda>" q params body scope [] pm cv ct) }∧CodeC h cv q
theorem LamAt.call{fa:Addr}(L:LamAt s.heap fa)(hnl:s.heap.NoLimit)(hA:A.depth+2<1000){x:Str}{t:Tok}(hx:x.length+2≤lim){Q:Value→Shared→Prop}
  (hQ:∀ (l:List (Str×Tok)) (s':Shared) (a:Addr),l.map (·.1)=nameKey x→(∀ b o,s.heap.get? b=some o→s'.heap.get? b=some o)→s.heap.get? a=none→s'.heap.get? a=some { cls := .type "list",data := .seq (strValues l).toArray }→s'.os=s.os→s'.gens=s.gens→Q (.ref a) s') :
  wpAny cx.M A (call (.ref fa) [.str x t]) Q E s:=by
 obtain ⟨params,body,scope,q,pm,cv,ct,h1,h2,c,o,vs,t,e1,e2,e3,e4,e5⟩:=L.ex
 exact lam_call hnl hA h1 h2 ⟨c,o,vs,t,e1,e2,e4,e5⟩ hx hQ
theorem LamAt.keep{h h':Heap}{fa kS:Addr}(L:LamAt h fa)(hk:∀ b o,b≠kS→h.get? b=some o→h'.get? b=some o)(hl:∃ o,h.get? kS=some o∧o.cls = .type "list"):LamAt h' fa:=by
 obtain ⟨o',ho',hc'⟩:=hl
 obtain ⟨params,body,scope,q,pm,cv,ct,h1,h2,c,o,vs,t,e1,e2,e3,e4,e5⟩:=L.ex
 exact ⟨params,body,scope,q,pm,cv,ct,h1,hk _ _ (fun q=>by rw[q,ho'] at h2; cases h2; simp at hc') h2,c,o,vs,t,e1,hk _ _ (fun q=>by rw[q,ho'] at e2; cases e2; rw[hc'] at e3; simp at e3) e2,e3,e4,e5⟩
theorem LamAt.keeps{h h':Heap}{fa:Addr}(L:LamAt h fa)(hk:∀ b o,h.get? b=some o→h'.get? b=some o):LamAt h' fa:=by
 obtain ⟨params,body,scope,q,pm,cv,ct,h1,h2,c,o,vs,t,e1,e2,e3,e4,e5⟩:=L.ex
 exact ⟨params,body,scope,q,pm,cv,ct,h1,hk _ _ h2,c,o,vs,t,e1,hk _ _ e2,e3,e4,e5⟩
theorem keys_loop{kS fa:Addr}(hA:A.depth+2<1000){body:Value→PUnit→Sem (ForInStep PUnit)}
  (hb:∀ x (s:Shared) (R:ForInStep PUnit→Shared→Prop),wpAny cx.M A (call (.ref fa) [x]) (fun k s'=>Ex2 fun ks e=>s'.heap.get? kS=some (seqObj "list" (List.toArray ks) e)∧ks.length<64∧R (.yield ⟨⟩) { s' with heap:=s'.heap.update kS (Obj.mapSeq (·.push k)) }) (fun ι ι=>False) s→wpAny cx.M A (body x ⟨⟩) R E s)
  {s₀:Shared} (hnl:∀ h:Heap,(∀ b o,b≠kS→s₀.heap.get? b=some o→h.get? b=some o)→h.NoLimit) :
  ∀ (vs:List Value) (xs done:List Str) (ks:List Value) (e:Nat) (s:Shared) {Q:PUnit→Shared→Prop},StrsL vs xs→(∀ x∈xs,x.length+2≤lim)→done.length+xs.length<64→KeysAt s.heap ks done→(∀ k∈ks,k≠Value.ref kS)→s.heap.get? kS=some (seqObj "list" (List.toArray ks) e)→LamAt s.heap fa →
   (∀ b o,b≠kS→s₀.heap.get? b=some o→s.heap.get? b=some o)→s.os=s₀.os→s.gens=s₀.gens →
   (∀ (s':Shared) ks' e',KeysAt s'.heap ks' (done++xs)→s'.heap.get? kS=some (seqObj "list" (List.toArray ks') e')→(∀ k∈ks',k≠Value.ref kS)→(∀ b o,b≠kS→s₀.heap.get? b=some o→s'.heap.get? b=some o)→s'.os=s₀.os→s'.gens=s₀.gens→Q ⟨⟩ s') →
   wpAny cx.M A (forIn vs PUnit.unit body) Q E s:=by
 intro vs
 induction vs with
 | nil =>
  intro xs done ks e s Q hst hx h64 hK hn hS hL hk h1 h2 hQ
  cases xs with
  | cons _ _=>exact hst.elim
  | nil =>
   rw[List.forIn_nil]
   exact wpAny_pure (hQ s ks e (by simpa using hK) hS hn hk h1 h2)
 | cons v vs ih =>
  intro xs done ks e s Q hst hx h64 hK hn hS hL hk h1 h2 hQ
  cases xs with
  | nil=>exact hst.elim
  | cons x xs =>
  obtain ⟨⟨t,ev⟩,hst⟩:=hst
  subst ev
  rw[List.forIn_cons]
  refine wpAny_bind (hb _ s _ (hL.call (hnl _ hk) hA (hx x (.head _)) fun l s' a hl hks hfr ha ho hg => ?_))
  have hS':=hks _ _ hS
  have hne:a≠kS:=fun q=>by rw[q,hS] at hfr; first | contradiction | cases hfr
  refine ⟨ks,e,hS',by rw[hK.length]; simp at h64; trivial,?_⟩
  dsimp only
  have hsb:Heap.SameBut kS s'.heap (s'.heap.update kS (Obj.mapSeq (·.push (Value.ref a)))):=Heap.SameBut.update ..
  have ea:(List.toArray ks).push (.ref a)=List.toArray (ks++[.ref a]):=by simp
  obtain ⟨c2,hc2⟩:∃ c2,(s'.heap.update kS (Obj.mapSeq (·.push (Value.ref a)))).get? kS=some (seqObj "list" (List.toArray (ks++[.ref a])) c2):=⟨_,by rw[← ea]; exact get?_update_seq hS' (·.push (Value.ref a))⟩
  refine ih xs (done++[x]) (ks++[.ref a]) c2 { s' with heap:=s'.heap.update kS (Obj.mapSeq (·.push (Value.ref a))) } hst (fun y hy=>hx y (.tail _ hy)) (by simp at h64 ⊢; trivial) ?_ ?_ hc2 ?_ ?_ (ho.trans h1) (hg.trans h2) ?_
  ·exact KeysAt.snoc (hsb.extBut _ _ hne ha) hl (hK.keep kS (fun b o hb e=>hsb.extBut b o hb (hks b o e)) hn)
  ·intro k hk'
   rcases List.mem_append.mp hk' with hk' | hk'
   ·exact hn k hk'
   ·rw[List.mem_singleton.mp hk']; intro q; cases q; exact hne rfl
  ·exact hL.keep (fun b o hb e=>hsb.extBut b o hb (hks b o e)) ⟨_,hS,rfl⟩
  ·exact fun b o hb e=>hsb.extBut b o hb (hks b o (hk b o hb e))
  ·intro s2 ks' e' q1 q2 q3 q4 q5 q6
   exact hQ s2 ks' e' (by simpa using q1) q2 q3 q4 q5 q6
theorem key_sort{a fa:Addr}{vs:List Value}{n:Nat}{xs outS:List Str}{P:PySem.Fin→Shared→Prop}(hu:A.units<cLine)(hA:A.depth+2<1000)(ho:s.heap.get? a=some (seqObj "list" vs.toArray n))(hv:StrsL vs xs)(hx:∀ x∈xs,x.length+2≤lim)(h23:xs.length≤5)(hpr:srt Str.empty ltName xs=outS)
  (hL:LamAt s.heap fa) (hnl:∀ h:Heap,(∀ b o,b≠a→s.heap.get? b=some o→h.get? b=some o)→h.NoLimit)
  (h:∀ (s':Shared) ws k,Heap.ExtBut a s.heap s'.heap→s'.heap.get? a=some (seqObj "list" ws k)→(∀ n ρ h,RepL n ρ h ws.toList (outS.map .str))→s'.os=s.os→s'.gens=s.gens→P (.done (.ret .none)) s') :
  wpAny cx.M A (ksk_tree a (.ref fa) false) P E s:=by
 have hlv:=hv.length
 have ha:a<s.heap.objs.size:=Heap.lt_size ho
 obtain ⟨e1,ho1⟩:∃ e1,(s.heap.update a (Obj.mapSeq fun ι=>(#[]:Array Value))).get? a=some (seqObj "list" #[] e1):=⟨_,get?_update_seq ho fun ι => #[]⟩
 unfold ksk_tree
 refine wpAny_bind (listItems_at ho rfl ?_)
 refine wpAny_bind (listUpdate_at ho rfl ?_ (by rw[List.size_toArray,sizeLine_eq]; trivial) (Nat.zero_le _))
 refine wpAny_bind (seqEpoch_at ho1 rfl ?_)
 refine wpAny_bind (wpAny_newTuple ?_ (by show vs.length≤_; rw[sizeLine_eq]; trivial))
 refine wpAny_bind (wpAny_newList ?_ (Nat.zero_le _))
 refine wpAny_holding ?_
 show wpAny cx.M A _ P E { s with heap:=sortHeap s.heap a vs }
 have hkSv:((s.heap.update a (Obj.mapSeq fun ι=>(#[]:Array Value))).push (seqObj "tuple" vs.toArray 0)).objs.size=s.heap.objs.size+1:=by rw[size_push',Heap.size_update]
 have hkS:(sortHeap s.heap a vs).get? (s.heap.objs.size+1)=some (seqObj "list" #[] 0):=by rw[← hkSv]; exact Heap.get?_push_size _ rfl
 rw[show (Heap.push (Heap.update s.heap a (Obj.mapSeq fun ι=>(#[]:Array Value))) { cls := .type "tuple",data := .seq (vs.toArray).toList.toArray }).objs.size=s.heap.objs.size+1 from by rw[Heap.size_push,Heap.size_update]]
 have hx0:Heap.ExtBut a s.heap (sortHeap s.heap a vs):=fun b o hb e=>sortHeap_get e hb
 have ho3:(sortHeap s.heap a vs).get? a=some (seqObj "list" #[] e1):=Heap.get?_push_of_some _ (Heap.get?_push_of_some _ ho1)
 have hak:a≠s.heap.objs.size+1:=by have:a<s.heap.objs.size:=ha; exact Nat.ne_of_lt (Nat.lt_succ_of_lt this)
 have hold:∀ b o,s.heap.get? b=some o→b≠s.heap.objs.size+1:=fun b o e=>Nat.ne_of_lt (Nat.lt_succ_of_lt (Heap.lt_size e))
 unfold ksk_rest
 refine wpAny_bind (wpAny_rule ?_)
 rw[← Array.forIn_toList]
 refine wpAny_bind (keys_loop (kS:=s.heap.objs.size+1) (fa:=fa) (s₀:={ s with heap:=sortHeap s.heap a vs }) hA (fun x s1 R hc => ?_) (fun h' hk'=>hnl h' fun b o hb e=>hk' b o (hold b o e) (hx0 b o hb e)) vs xs [] [] 0 { s with heap:=sortHeap s.heap a vs } hv hx (by simp; trivial) trivial (fun ι h=>by cases h) hkS (hL.keep (fun b o hb e=>hx0 b o hb e) ⟨_,ho,rfl⟩) (fun ι ι ι e=>e) rfl rfl fun s2 ks e hK hS hn hk hos hgs => ?_)
 ·refine wpAny_bind (wpAny_attempt (wpAny_mono hc (fun k s2 hk => ?_) fun e s2 he => ?_))
  ·obtain ⟨ks,e,hS,hz,hR⟩:=hk
   dsimp only
   refine wpAny_bind (listUpdate_at hS rfl ?_ (by rw[List.size_toArray,sizeLine_eq]; trivial) (Nat.le_trans (Nat.le_of_eq (Array.size_push ..)) (by rw[List.size_toArray,sizeLine_eq]; trivial)))
   exact wpAny_pure hR
  ·exact he.elim
 rw[List.nil_append] at hK
 have hkl:=hK.length
 refine wpAny_bind (listItems_at hS rfl ?_)
 have hka:∀ b o,s.heap.get? b=some o→b≠a→s2.heap.get? b=some o:=fun b o e hb=>hk b o (hold b o e) (hx0 b o hb e)
 have ho4:=hk a _ hak ho3
 unfold ksk_end
 simp only[Bool.false_eq_true,if_false]
 have tail:∀ (st:SortSt) (out:List Value),(arrOf st).map (·.2)=out.toArray→failedOf st=none→out.length=vs.length→(∀ n ρ h,RepL n ρ h out (outS.map .str))→wpAny cx.M A (ksk_tail a false e1 (.ref (s.heap.objs.size+1)) st) P E s2:=fun st out h1 h2 h3 h4=>by
  unfold ksk_tail
  simp only[h1,Bool.false_eq_true,if_false]
  refine wpAny_bind (listUpdate_at hS rfl ?_ (by rw[List.size_toArray,sizeLine_eq]; trivial) (Nat.zero_le _))
  refine wpAny_bind (wpAny_letGo ?_)
  have hb1:Heap.SameBut (s.heap.objs.size+1) s2.heap (s2.heap.update (s.heap.objs.size+1) (Obj.mapSeq fun ι=>(#[]:Array Value))):=Heap.SameBut.update ..
  have ho5:=hb1.extBut _ _ hak ho4
  refine wpAny_bind (seqEpoch_at ho5 rfl ?_)
  refine wpAny_bind (listUpdate_at ho5 rfl ?_ (Nat.zero_le _) (by rw[List.size_toArray,sizeLine_eq]; trivial))
  rw[h2]
  simp only[bne_self_eq_false,Bool.false_eq_true,if_false]
  obtain ⟨k,e⟩:∃ k,((s2.heap.update (s.heap.objs.size+1) (Obj.mapSeq fun ι=>(#[]:Array Value))).update a (Obj.mapSeq fun ι=>out.toArray)).get? a=some (seqObj "list" out.toArray k):=⟨_,get?_update_seq ho5 fun ι=>out.toArray⟩
  refine wpAny_pure (h _ out.toArray k (fun b o hb e => ?_) e (fun n ρ h=>by simpa using h4 n ρ h) hos hgs)
  exact (Heap.get?_update_other _ _ (Ne.symm hb)).trans (hb1.extBut b o (hold b o e) (hka b o e hb))
 by_cases h2:xs.length<2
 ·have hn2:vs.toArray.size<2:=by rw[List.size_toArray,hlv]; exact h2
  rw[if_pos hn2,if_pos hn2]
  refine wpAny_bind (wpAny_pure ?_)
  refine wpAny_bind (wpAny_pure ?_)
  dsimp only
  refine tail _ vs ?_ rfl rfl fun n ρ h => ?_
  ·show ((List.toArray ks).zip vs.toArray).map (·.2)=vs.toArray
   apply Array.toList_inj.mp
   simp [List.map_snd_zip (show vs.length≤ks.length by rw[hlv]; exact Nat.le_of_eq hkl.symm)]
  ·rw[← hpr,show srt Str.empty ltName xs=xs from if_pos h2]; exact hv.rep
 have h25:2≤xs.length∧xs.length≤5:=⟨Nat.le_of_not_lt h2,h23⟩
 have hn2:¬ vs.toArray.size<2:=by rw[List.size_toArray,hlv]; exact h2
 rw[if_neg hn2,if_neg hn2]
 have hl2:ks.length=xs.length:=hkl
 have hkl:=hl2.trans hlv.symm
 refine wpAny_bind (kas_kind (T := .type "list") (by rw[hl2]; exact h25.1) (fun v hv' => ?_) (by decide) (by decide) ?_)
 ·obtain ⟨i,hi,rfl⟩:=List.mem_iff_getElem.mp hv'
  obtain ⟨b,l,e1,e2,_⟩:=hK.get i hi
  rw[List.getD_eq_getElem?_getD,List.getElem?_eq_getElem hi] at e1
  rw[show ks[i] = .ref b from e1]
  exact (Looks.ld e2).andThen .now
 have ask:(kas_sort vs.length).kasWp (kas_ask cx.prog cx.w A oneType' ks) (fun p s'=>p.toList=srtP Str.empty ltName xs∧s'=s2) s2:=by
  rw[hlv]
  refine krun_low (n:=xs.length) (lt:=fun i j=>ltName (xs.getD i Str.empty) (xs.getD j Str.empty)) (fun i j C hi hj hq => ?_) _ (low_sort h25) ⟨rfl,rfl⟩
  obtain ⟨b,l,e1,e2,e3⟩:=hK.get i (hl2▸hi)
  obtain ⟨b',l',f1,f2,f3⟩:=hK.get j (hl2▸hj)
  show wpAny _ _ (keyLt' oneType' (ks.getD i .none) (ks.getD j .none)) _ _ _
  rw[e1,f1]
  refine lt_list hu e2 f2 ?_
  rw[e3,f3]; exact hq
 refine wpAny_bind (wpAny_mono (kat_run (ks:=ks) (vs:=vs) (Q:=fun st' s'=>∃ p:Array Nat,p.size=vs.length∧arrOf st'=p.map (kas_item ((List.toArray ks).zip (List.toArray vs)))∧failedOf st'=none∧(p.toList=srtP Str.empty ltName xs∧s'=s2))
  hkl (by rw[hlv]; exact h25.1) (by rw[hlv]; trivial) (fun p' st' s' a1 a2 a3 a4=>⟨p',a1,a2,a3,a4⟩) ask) ?_ fun ι ι x=>x)
 rintro ⟨⟨⟩,st'⟩ s' ⟨p,hp,har,hf,hpp,rfl⟩
 dsimp only
 refine tail st' ((srtP Str.empty ltName xs).map fun i=>vs.getD i Value.none) ((kat_snds hkl har).trans (by rw[hpp])) hf (by rw[List.length_map,← hpp]; exact hp) fun n ρ h => ?_
 have hlow:=(srtP_ok (d:=Str.empty) (lt:=ltName) h25).2
 rw[← hpr,show srt Str.empty ltName xs=(srtP Str.empty ltName xs).map fun i=>xs.getD i Str.empty from if_neg h2,← map_pick hlow]
 exact rep_pick hv.rep fun i hi=>by rw[List.length_map]; exact hlow i hi
end
end
section
theorem among_snoc{pos:Pos}{a b:Int}{c cv:Value}:∀ (l:List Value),TriplesOk l→codeAmong pos (l++[rawInt a,rawInt b,c])=some cv→codeAmong pos l=some cv∨cv=c:=fun l h e=>by
 fun_induction TriplesOk l with
 | case1 =>
  simp only[List.nil_append,rawInt,codeAmong] at e
  split at e
  ·cases e; exact .inr rfl
  ·first | contradiction | cases e
 | case2 a' t b' u x rest ih =>
  simp only[List.cons_append,codeAmong] at e ⊢
  split at e
  ·rename_i hc; cases e; rw[if_pos hc]; exact .inl rfl
  ·rename_i hc; rw[if_neg hc]; exact ih h e
 | case3 l h1 h2=>exact h.elim
section
variable {cx:Cx} {A:Around} {s:Shared} {E:Value→Shared→Prop} {env:Env} {c P:Addr} {ps:Array Value} {pos:Pos} {firstLine:Nat} {mg:Str→Option Value} {qual:Str} {params:Arguments} {body:Expr} {scope:Scope} {Q:Value→Shared→Prop}
theorem lam_miss(hcl:closureFor scope env=pure [])(hge0:env.globals=mainGlobals)(hg:s.heap.Ns mainGlobals mg)(hcode:env.code = .ref c)(C:CodeHd s.heap c P)(hP:s.heap.get? P=some (tabObj ps))(ht:TriplesOk ps.toList)
  (hnf:codeAmong pos ps.toList=none) (hgP:mainGlobals≠P) (hb:s.heap.BuiltinsAt mg P)
  (h:∀ c' h' tk,Heap.ExtBut P s.heap h'→CodeC h' (.ref c') qual→h'.get? P=some (tabObj (ps ++ #[rawInt pos.line,rawInt pos.col,.ref c'])) →
   Q (.ref h'.objs.size) { s with heap:=h'.push { cls := .type "function",data := .func (kla_fn "<lambda>" qual params body scope [] ((mg "__name__").getD .none) (.ref c') .none) },toks:=tk }) :
  wpAny cx.M A (makeFunction "<lambda>" qual params (.expr body) scope env [] [] [] pos firstLine) Q E s:=by
 obtain ⟨bm,ob,hbm,hne0,_,hneP,hbo,hcls,hdict,hdata⟩:=hb
 rw[makeFunction_eq]
 simp only[List.zip_nil_right,List.filterMap_nil,List.isEmpty_nil,if_true,pure_bind]
 unfold makeTail
 rw[hcl,hge0]
 refine wpAny_bind (wpAny_pure ?_)
 simp only[List.isEmpty_nil,if_true]
 refine wpAny_bind (wpAny_pure ?_)
 refine wpAny_bind (wpAny_functionCodeX hcode (C.code hP ht) (C.tab hP) hnf fun c' h' tk hx hge hlt ι hrec htb hnew => ?_)
 have hg':=hg.extBut hx hgP
 refine wpAny_bind (wpAny_builtinsFor hg' hbm hne0 (hx _ _ hneP hbo) hcls hdict hdata ?_)
 refine wpAny_bind (wpAny_nsGet hg' ?_)
 refine wpAny_bind (wpAny_pure (wpAny_newObj_type (h c' h' tk hx ?_ htb.2) (by size_fits)))
 obtain ⟨P',_,_,⟨o,vs,e1,e2,e3,_⟩,_⟩:=hnew
 obtain ⟨c2,o2,vs2,t2,f0,f1,f2,f3⟩:=hrec
 cases f0
 exact ⟨c',o2,vs2,t2,rfl,f1,by rw[f1] at e1; cases e1; exact e2,f2,f3⟩
end
section
variable {pe:Pe} {cx:Cx} {A:Around} {s:Shared} {E:Value→Shared→Prop} {ρ:Nat→Addr} {H:Hp} {sc:Sc}
theorem hp_put_self{i:Nat}{o:AObj}(h:H.f i=o):H.put i o=H:=by
 refine congrArg (fun g=>Hp.mk g H.n) (funext fun j => ?_)
 by_cases e:j=i
 ·rw[if_pos e,e]; exact h.symm
 ·rw[if_neg e]
theorem s_lambda(Pk:PeOk pe cx){env:Env}{params:Arguments}{body:Expr}{scope:Scope}{lpos:Pos}{c P:Addr}{q:Str}(N:EnvOk cx env sc)(L:IsLam params body scope)(hlam:cx.lam sc=some (c,P,q))(h0:0<H.n)(hf:H.f 0 = .tab P q)(I:Inv cx ρ H s){Q:Value→Shared→Prop}
  (hQ:∀ fa s',Stp cx NoW ρ H s ρ H s'→LamAt s'.heap fa→Q (.ref fa) s'):wpAny cx.M A (eval (.Lambda params body scope lpos) env) Q E s:=by
 obtain ⟨ann,np,ap,cp,k1,p1,k2,p2,more,e1,e2,e3,hap⟩:=id L.ex
 obtain ⟨hcode,hq⟩:=N.lam c P q hlam
 obtain ⟨C,mg,hNs,hB,hgP⟩:=Pk.lamOk hlam
 have hT:=I.objs 0 h0
 rw[hf] at hT
 obtain ⟨hρ,ps,hP,htr,hall⟩:=hT
 have hNs':s.heap.Ns mainGlobals mg:=hNs.keeps I.keep
 have C':=C.keeps I.keep
 have hB':s.heap.BuiltinsAt mg P:=let ⟨bm,o,a1,a2,a3,a4,a5,a6⟩:=hB; ⟨bm,o,a1,a2,a3,a4,I.keep _ _ a5,a6⟩
 have hcl:closureFor scope env=pure []:=by subst e3; rfl
 have hdef:defaultsOf params env=([],[]):=by subst e1; rfl
 refine kla_eval hdef ?_
 rw[hq]
 cases hc:codeAmong lpos ps.toList with
 | some cv =>
  refine kla_makeFunctionHit hcl N.globals hNs' hcode C' hP htr hc hB' fun ctv h' tk hkeep ι => ?_
  have hCv:=hall lpos cv hc
  refine hQ _ _ (Stp.grown _ I (fun b o e=>Heap.get?_push_of_some _ (hkeep b o e)) rfl rfl) ⟨params,body,scope,q,_,cv,ctv,L,Heap.get?_push_size _ rfl,?_⟩
  obtain ⟨c2,o2,vs2,t2,f0,f1,f2⟩:=hCv
  exact ⟨c2,o2,vs2,t2,f0,Heap.get?_push_of_some _ (hkeep _ _ f1),f2⟩
 | none =>
  refine lam_miss hcl N.globals hNs' hcode C' hP htr hc hgP hB' fun c' h' tk hx hCv hP' => ?_
  have up:∀ (o:Obj) {cv},CodeC h' cv q→CodeC (h'.push o) cv q:=fun o cv ⟨c2,o2,vs2,t2,f0,f1,f2⟩=>⟨c2,o2,vs2,t2,f0,Heap.get?_push_of_some _ f1,f2⟩
  have S:∀ o:Obj,Stp cx NoW ρ H s ρ (H.put 0 (.tab P q)) { s with heap:=h'.push o,toks:=tk }:=fun o=>by
   refine Stp.putX _ I h0 (fun b o' hb e=>Heap.get?_push_of_some _ (hx b o' (by rw[← hρ]; exact hb) e)) ⟨hρ,_,Heap.get?_push_of_some _ hP',?_,fun pos' cv' e => ?_⟩ rfl rfl
   ·have:=TriplesOk_snoc lpos.line lpos.col (.ref c') ps.toList htr
    simpa using this
   ·have e':codeAmong pos' (ps.toList++[rawInt lpos.line,rawInt lpos.col,.ref c'])=some cv':=by simpa using e
    rcases among_snoc _ htr e' with q1 | rfl
    ·obtain ⟨c2,o2,vs2,t2,f0,f1,f2,f3⟩:=hall pos' cv' q1
     refine ⟨c2,o2,vs2,t2,f0,Heap.get?_push_of_some _ (hx _ _ (fun q => ?_) f1),f2,f3⟩
     rw[q,hP] at f1; cases f1; simp at f2
    ·exact up o hCv
  rw[hp_put_self hf] at S
  exact hQ _ _ (S _) ⟨params,body,scope,q,_,_,_,L,Heap.get?_push_size _ rfl,up _ hCv⟩
end
end
section
section
variable {pe:Pe} {cx:Cx} {n:Nat} {sc:Sc} {loc:Loc} {H H':Hp} {x:V}
theorem strsL_perm_keys{prog:Program}{w:World}:∀ {vs:List Value},(∀ v∈vs,∃ k,(PySem.strKind prog w).is k v=true)→∃ xs,StrsL vs xs
 | [],_=>⟨[],trivial⟩
 | v::vs,h=>by
  obtain ⟨k,hk⟩:=h v (.head _)
  obtain ⟨t,rfl⟩:=str_of_is hk
  obtain ⟨xs,hxs⟩:=strsL_perm_keys (vs:=vs) fun v hv=>h v (.tail _ hv)
  exact ⟨k::xs,⟨t,rfl⟩,hxs⟩
theorem StrsL.mem{prog:Program}{w:World}{vs:List Value}:∀ {xs},StrsL vs xs→∀ k,k∈xs↔∃ v∈vs,(PySem.strKind prog w).is k v=true:=by
 induction vs with
 | nil=>intro xs r k; cases xs with
  | nil=>exact ⟨fun h=>(nomatch h),fun ⟨_,h,_⟩=>(nomatch h)⟩
  | cons x xs=>exact r.elim
 | cons v vs ih=>intro xs r k; cases xs with
  | nil=>exact r.elim
  | cons x xs =>
   obtain ⟨⟨t,e⟩,r⟩:=r
   subst e
   rw[List.mem_cons,ih r k]
   constructor
   ·rintro (rfl | ⟨v,hv,q⟩)
    ·exact ⟨_,.head _,strKind_is _ _ _ _⟩
    ·exact ⟨v,.tail _ hv,q⟩
   ·rintro ⟨v,hv,q⟩
    rcases List.mem_cons.mp hv with rfl | hv
    ·obtain ⟨t',e⟩:=str_of_is q; cases e; exact .inl rfl
    ·exact .inr ⟨v,hv,q⟩
theorem perm_of_nodup{α:Type}[DecidableEq α]:∀ {ks l:List α},ks.Nodup→l.length=ks.length→(∀ k,k∈ks→k∈l)→l.Perm ks
 | [],l,_,hl,_=>by obtain rfl:=List.length_eq_zero_iff.mp hl; exact .refl _
 | k::ks,l,hn,hl,hm=>by
  rw[List.nodup_cons] at hn
  have hk:k∈l:=hm k (.head _)
  have hp:=List.perm_cons_erase hk
  refine hp.trans ((perm_of_nodup hn.2 ?_ fun j hj => ?_).cons k)
  ·rw[List.length_erase_of_mem hk,hl]; rfl
  ·have hne:j≠k:=fun q=>hn.1 (q▸hj)
   rw[List.mem_erase_of_ne hne]; exact hm j (.tail _ hj)
theorem s_sortedBy(Pk:PeOk pe cx){A:Around}{s:Shared}{ρ:Nat→Addr}{E}(a1:Ar (n+1) A){i:Nat}{ks out:List Str}{fa:Addr}(hi:i<H.n)(e:H.f i = .set ks)(hso:SortsTo ks out)(hlen:ks.all (fun k=>decide (k.length+2≤lim))=true)(I:Inv cx ρ H s)(hL:LamAt s.heap fa){Q:Value→Shared→Prop}
  (hQ:∀ v s' ρ',Stp cx NoW ρ H s ρ' (H.alloc (.list (out.map .str))) s'→Rep (H.n+1) ρ' s'.heap v (.ref H.n)→Q v s') :
  wpAny cx.M A (call (.builtin "sorted") [.ref (ρ i)] [(Str.ofString "key",.ref fa)]) Q E s:=by
 have hS:SetL cx.prog cx.w s.heap (ρ i) ks:=by have:=I.objs i hi; rw[e] at this; exact this
 obtain ⟨⟨⟨o,es,ep,t,ho,hex,hd,hel,hmem,hb,hf,hn⟩,o',es',ep',t',ho',hd',hld,hp,hsm⟩,hksn⟩:=hS
 rw[ho] at ho'; first | contradiction | cases ho'
 rw[hd] at hd'; first | contradiction | cases hd'
 refine call_function_entry_kw kind_sorted plain_sorted entry_sorted (ksk_s1 _ _) ?_
 unfold Builtin.«sorted»
 refine wpAny_bind (m:=checkCount "sorted" 1 1 _) (wpAny_pure ?_)
 refine wpAny_bind (set_collect (a:=ρ i) (es:=es) (ep:=ep) (t:=t) a1.handled ⟨⟨o,ho,hex.1,hd⟩,hf⟩ hld hp hb fun wk s1 hpm hk1 hos hgs => ?_)
 have hkey:∀ v∈wk,∃ k,(PySem.strKind cx.prog cx.w).is k v=true:=fun v hv=>by
  obtain ⟨p,hp1,rfl⟩:=List.mem_map.mp (hpm.mem_iff.mp hv)
  obtain ⟨⟨k,hk,_⟩,_⟩:=hel p hp1
  exact ⟨k,hk⟩
 obtain ⟨xs,hxs⟩:=strsL_perm_keys hkey
 have hwl:wk.length=ks.length:=by rw[hpm.length_eq]; simpa using hn
 have hxp:xs.Perm ks:=by
  refine perm_of_nodup hksn (by rw[← hxs.length,hwl]) fun k hk => ?_
  rw[hxs.mem (prog:=cx.prog) (w:=cx.w)]
  obtain ⟨p,hp1,hp2⟩:=(hmem k).mp (by simpa using hk)
  exact ⟨p.2,hpm.mem_iff.mpr (List.mem_map_of_mem hp1),hp2⟩
 have h64:=hso.few
 have hpr:=hso.eq xs hxp
 refine wpAny_bind (wpAny_newList ?_ (by rw[hwl,sizeLine_eq]; trivial))
 refine wpAny_bind (wpAny_holding (wpAny_call_entry_kw slot_list_sort ⟨_,Heap.get?_push_size _ rfl,rfl⟩ entry_list_sort ?_ (ksk_l1 _ _)))
 show wpAny cx.M A.in1.in1 (Builtin.«list.sort» ⟨[.ref s1.heap.objs.size],[(Str.ofString "key",.ref fa)]⟩) _ _ _
 rw[ksk_t1]
 have hk2:∀ b o,s.heap.get? b=some o→(s1.heap.push { cls := .type "list",data := .seq wk.toArray }).get? b=some o:=fun b o e=>Heap.get?_push_of_some _ (hk1 b o e)
 have fr:∀ b o,s.heap.get? b=some o→b≠s1.heap.objs.size:=fun b o e=>Nat.ne_of_lt (Heap.lt_size (hk1 b o e))
 have hfr:s.heap.get? s1.heap.objs.size=none:=by
  cases e:s.heap.get? s1.heap.objs.size with
  | none=>rfl
  | some o=>exact absurd rfl (fr _ _ e)
 have hu:=a1.units
 have hdp:=a1.depth
 refine key_sort (s:={ s1 with heap:=s1.heap.push { cls := .type "list",data := .seq wk.toArray } }) (xs:=xs) ?_ ?_ (Heap.get?_push_size _ rfl) hxs (fun x hx => ?_) (by rw[← hxs.length,hwl]; exact h64) hpr (hL.keeps hk2) (fun h' hk' => ?_) fun s2 ws k2 hx ho2 hr hos2 hgs2=>⟨_,rfl,wpAny_pure ⟨_,rfl,?_⟩⟩
 ·show A.units+1+1<cLine; simp only[cLine]; trivial
 ·show A.depth+2<1000; trivial
 ·have:=List.all_eq_true.mp hlen x (hxp.mem_iff.mp hx)
  simpa using this
 ·exact Pk.noLimit.keeps fun b o e=>hk' b o (fr b o (I.keep b o e)) (hk2 b o (I.keep b o e))
 ·have hk3:∀ b o,s.heap.get? b=some o→s2.heap.get? b=some o:=fun b o e=>hx b o (fr b o e) (hk2 b o e)
  refine hQ _ _ (fun j=>if j=H.n then s1.heap.objs.size else ρ j) (Stp.new _ I hfr (I.neX hk1) hk3 ⟨ws,k2,ho2,?_⟩ (hos2.trans hos) ?_) rep_new
  ·exact hr _ _ _
  ·rw[hgs2]; show s1.gens=_; rw[hgs]
theorem strsAre_rep{n:Nat}{ρ:Nat→Addr}{h:Heap}{vs:List Value}{xs:List Str}(q:StrsAre vs xs):RepL n ρ h vs (xs.map .str):=by
 induction q with
 | nil=>exact .nil
 | cons _ _ _ ih=>exact .cons (.str _ _) ih
theorem e_NsMap(Pk:PeOk pe cx){fp mp ap ipos pos:Pos}{l:List (Str×Str)}(hap:ap.endLine=ipos.line)(hkf:sc.lookup ("list":Str)=some .globalImplicit)(hkm:sc.lookup nsMapName=some .globalImplicit)(hl:pe.nsm=some l)(eH:H.alloc (.list (l.map fun p => .tup [.str p.1,.str p.2]))=H'):
  GE cx (n+1) sc loc (.Call (.Name "list" fp) [.Call (.Attribute (.Name nsMapName mp) "items" ap) [] [] ipos] [] pos) H (.ref H.n) H':=by
 intro A env ρ s Q E C hQ
 subst eH
 obtain ⟨a1,a2,I,X⟩:=C
 obtain ⟨hgl,a,ps,hld,hsys,hz,hD,hn1,hn2⟩:=Pk.nsm hl
 have hlk:look pe sc loc "list"=some (.bf .list):=by
  unfold look
  rw[if_neg (by decide),hkf]; exact hgl
 have kg:env.kindOf nsMapName=some .globalImplicit:=a2.kind' hkm (by decide)
 refine wpAny_Call_ofName (s_Name Pk hlk a2 I X fun fv rf => ?_)
 obtain rfl:=rf.inv_bf
 have hD':s.heap.DictOf (PySem.strKind cx.prog cx.w) a ps:=let ⟨o,es,ep,ho,r⟩:=hD; ⟨o,es,ep,I.keep _ _ ho,r⟩
 obtain ⟨o,es,ep,ho,hex,hdd,hK,hP,hnd⟩:=id hD'
 have hT:s.TypeIs (.ref a) "dict":=hD'.typeIs
 have hnd':∀ b,Value.ref a = .ref b→∃ o,s.heap.get? b=some o∧o.dict=none:=fun b q=>by cases q; exact ⟨_,ho,hex.2.1⟩
 refine s_callWith (evalArgs_kw2 rfl (Calls.spliced_cons ?_) rfl)
 rw[arm_eval_Call,base_of rfl]
 refine wpAny_bind (wpAny_Name ?_ (by decide))
 rw[loadName_read a2.kind kg]
 refine hld a2.globals a2.builtins I.keep ?_
 refine wpAny_bind (wpAny_standAt ?_)
 unfold methodCall
 rw[show methodCallForm (([]:List Expr).length+([]:List Keyword).length) (backTo ipos (starEach [] env)) (backToKw ipos (keywordEach [] env))=true from rfl]
 refine wpAny_bind (wpAny_holding ?_)
 show wpAny _ _ (getMethod (.ref a) "items" _) _ _ _
 refine getMethod_builtin hT F.plainAttrs_dict F.slot_dict_items F.type_dict_items hnd' ?_
 dsimp only
 refine wpAny_bind ?_
 rw[pos_of hap]
 refine wpAny_pure (s_callWith (evalArgs_kw2_nil rfl (kwAll_nil ⟨fun {A Q E} hQ=>wpAny_pure (hQ _),?_⟩)))
 refine call_meetsIn F.slot_dict_items hD'.typeIs F.entry_dict_items (F.args_dict_items_1 _) (meets_dict_items (PySem.strKind cx.prog cx.w) a hsys) ⟨⟨ps,hD'⟩,?_⟩
 refine Calls.spliced_nil (kwAll_nil ⟨fun {A Q E} hQ=>wpAny_pure (hQ _),?_⟩)
 refine kdx_call (knd:=PySem.strKind cx.prog cx.w) (d:=a) (kvs:=ps) (ep:=ep) a1.handled ⟨_,Heap.get?_push_size _ rfl,rfl,rfl⟩ ⟨o,es,Heap.get?_push_of_some _ ho,hex,hdd,hK,hP,hnd⟩ (by rw[sizeLine_eq]; trivial) fun h' tk acc c as hk hS hlen hG hacc => ?_
 have hk2:∀ b o,s.heap.get? b=some o→h'.get? b=some o:=fun b o e=>hk b o (Heap.get?_push_of_some _ e)
 have hsz:s.heap.objs.size<(s.heap.push { cls := .type "dict_items",data := .fields #[.ref a] }).objs.size:=by rw[Heap.size_push]; trivial
 refine hQ _ _ (fun j=>if j=H.n then (s.heap.push { cls := .type "dict_items",data := .fields #[.ref a] }).objs.size else ρ j) (Stp.new _ I (Heap.get?_none_of_le (Nat.le_of_lt hsz)) (I.neX fun ι ι e=>Heap.get?_push_of_some _ e) hk2 ⟨acc,c,hS,?_⟩ rfl rfl) rep_new
 rw[hacc]
 have:=pairs_rep (n:=H.n+1) (ρ:=fun j=>if j=H.n then (s.heap.push { cls := .type "dict_items",data := .fields #[.ref a] }).objs.size else ρ j) (h:=h') (prog:=cx.prog) (w:=cx.w) (lo:=0) (ps:=ps) (kvs:=l.map fun p=>(p.1,V.str p.2)) (as:=as) (by rw[hn1,List.map_map]; rfl) (by
  have:=strsAre_rep (n:=H.n+1) (ρ:=fun j=>if j=H.n then (s.heap.push { cls := .type "dict_items",data := .fields #[.ref a] }).objs.size else ρ j) (h:=h') hn2
  rw[List.map_map] at this ⊢; exact this) hlen fun j b hj=>hG.pairs j b hj
 rw[List.map_map] at this
 exact this
theorem e_SortK(Pk:PeOk pe cx){p fp np p1 p2 p3 p4 p5 lp kp:Pos}{f:Str}{x:Expr}{k1 k2:Nat}{more:List (Str×Const)}{i:Nat}{ks:List Str}{a P:Addr}{q:Str}{H1 H2:Hp}(hap:p2.endLine=p5.line)(hstar:isStar x=false)(hlk:look pe sc loc f=some (.bf .sorted))(h1:GE cx n sc loc x H (.ref i) H1)
  (hks:H1.f i = .set ks) (hl:pe.lam sc=some (a,P,q)) (h0:0<H1.n) (hf:H1.f 0 = .tab P q) (c1:SortsTo ks out) (c3:ks.all (fun k=>decide (k.length+2≤lim))=true) (e:H1.alloc (.list (out.map .str))=H2) :
  GE cx (n+1) sc loc (.Call (.Name f fp) [x] [⟨some "key",.Lambda ⟨[],[⟨"n",none,np⟩],none,[],[],none,[]⟩ (.Call (.Attribute (.Name "n" p1) "split" p2) [.Constant (.str brace) k1 p3,.Constant (.int 1) k2 p4] [] p5) ⟨.function,[("n",.local)],false,false,more⟩ lp,kp⟩] p) H (.ref H1.n) H2:=by
 intro A env ρ s Q E C hQ
 subst e
 refine wpAny_Call_ofName (s_Name Pk hlk C.en C.inv C.vars fun fv rf => ?_)
 cases rf.inv_bf
 refine s_callWith (evalArgs_kw2 rfl ((l_cons hstar h1 l_nil).2.2 (pos:=p) C.low fun vs s1 ρ1 S1 r1 => ?_) (starEach_plain hstar))
 show wpAny _ _ (do let v ← (do let v ← eval (.Lambda _ _ _ lp) env; standAt p; pure v); return v::(← holding [v] (evalAll []))) _ _ _
 refine wpAny_bind (wpAny_bind (s_lambda Pk C.en ⟨⟨_,_,_,_,_,_,_,_,_,rfl,rfl,rfl,hap⟩⟩ (by rw[← Pk.lam]; exact hl) h0 hf S1.inv fun fa s2 S2 L=>wpAny_bind (wpAny_standAt (wpAny_pure (wpAny_bind (wpAny_holding (wpAny_pure (wpAny_pure ?_))))))))
 cases r1 with | cons r0 r1 =>
 cases r1
 obtain ⟨hi,rfl⟩:=r0.inv_ref
 refine ⟨fun {A Q E} hQ=>wpAny_pure (hQ _),?_⟩
 exact s_sortedBy Pk C.ar hi hks c1 c3 S2.inv L fun v s3 ρ3 S3 r3=>hQ v s3 ρ3 ((S1.trans S2).trans S3) r3
end
end
section
theorem lk_append:typeLookup (.type "list") "append"=pure (some (.builtin "list.append")):=by rw[typeLookup_type,builtinLookup_eq_fast]; kernel_rfl
theorem ty_append:typeOf (.builtin "list.append")=pure (.type "method_descriptor"):=F.type_list_append
theorem md_get:typeLookup (.type "method_descriptor") "__get__"=pure (some (.builtin "method_descriptor.__get__")):=by rw[typeLookup_type,builtinLookup_eq_fast]; kernel_rfl
theorem md_set:typeLookup (.type "method_descriptor") "__set__"=pure none:=by rw[typeLookup_type,builtinLookup_eq_fast]; kernel_rfl
theorem md_del:typeLookup (.type "method_descriptor") "__delete__"=pure none:=by rw[typeLookup_type,builtinLookup_eq_fast]; kernel_rfl
theorem slot_md_get:Slot "method_descriptor" "__get__" "method_descriptor.__get__" :=
 .of (owner:="method_descriptor") (n:="__get__") (by rw[typeLookup_type,builtinLookup_eq_fast]; kernel_rfl) (by decide+kernel) (by decide+kernel) (by decide+kernel)
  (by first | exact .inl (by decide+kernel) | exact .inr (by decide+kernel)) (by rw[isSubtype_type]; kernel_rfl)
theorem entry_md_get:entryFor table "method_descriptor.__get__"=some Builtin.«method_descriptor.__get__» := entryFor_of_tree (by kernel_rfl)
theorem args_md_get(a b c:Value):argsOk "method_descriptor.__get__" ⟨[a,b,c],[]⟩:=by unfold argsOk; kernel_rfl
section
variable {prog:Program} {w:World} {A:Around} {E:Value→Shared→Prop} {h:Heap} {g:Array GenState} {d:Drawn} {t:Nat} {os:OsState} {a:Addr} {xs:Array Value} {k:Nat}
theorem append_get{R:Result→Shared→Prop}(hx:h.get? a=some { cls := .type "list",data := .seq xs k })
 (hq:R (.ok (.ret (.ref h.objs.size))) ⟨h.push { cls := .type "builtin_function_or_method",data := .fields #[.builtin "list.append",.ref a] },g,d,t,os⟩) :
  codeAny (model prog w) A (.call (.builtin "method_descriptor.__get__") ⟨[.builtin "list.append",.ref a,.type "list"],[]⟩) R ⟨h,g,d,t,os⟩:=by
 have hT:(⟨h,g,d,t,os⟩:Shared).TypeIs (.ref a) "list":=⟨_,hx,rfl⟩
 have hT5:(⟨h,g,d,t,os⟩:Shared).TypeIs (.builtin "list.append") "method_descriptor":=ty_append
 have hno:Manifest.toldItsClass.contains "list.append"=false:=by decide+kernel
 refine codeAny_call_builtin slot_md_get.plain entry_md_get (slot_md_get.check _ _ _ _ _ _ _ _ hT5 (args_md_get _ _ _) ?_)
 have hown:(".".intercalate ("list.append".cutAt '.').dropLast)="list":=by decide+kernel
 have hsub:isSubtype (.type "list") (.type (".".intercalate ("list.append".cutAt '.').dropLast))=pure true:=by rw[hown]; exact AutoSeq1.sub_list_list
 unfold Builtin.«method_descriptor.__get__»
 refine wpAny_bind (wpAny_pure ?_)
 have e1:(if (Value.ref a==Value.none)=true then none else some (Value.ref a))=some (Value.ref a):=rfl
 have e2:(if (Value.type "list"==Value.none)=true then none else some (Value.type "list"))=some (Value.type "list"):=rfl
 simp only[e1,e2,hno,Bool.false_eq_true,if_false]
 refine wpAny_bind ?_
 refine wpAny_bind (m:=isInstance (.ref a) (.type (".".intercalate ("list.append".cutAt '.').dropLast))) (wpAny_isInstance hT hsub ?_)
 refine wpAny_pure ?_
 refine wpAny_bind ?_
 unfold newFields
 exact wpAny_newObj_type (wpAny_pure hq) (by size_fits)
theorem append_entry{tk:Tok}{Q:PySem.Fin→Shared→Prop}(hx:h.get? a=some { cls := .type "list",data := .seq xs k })
 (hq:Q (.done (.ret (.ref h.objs.size))) ⟨h.push { cls := .type "builtin_function_or_method",data := .fields #[.builtin "list.append",.ref a] },g,d,t,os⟩) :
  wpAny (model prog w) A (Builtin.«object.__getattribute__» ⟨[.ref a,.str "append" tk],[]⟩) Q E ⟨h,g,d,t,os⟩:=by
 have hT:(⟨h,g,d,t,os⟩:Shared).TypeIs (.ref a) "list":=⟨_,hx,rfl⟩
 have hT5:(⟨h,g,d,t,os⟩:Shared).TypeIs (.builtin "list.append") "method_descriptor":=ty_append
 have f4:=lk_append
 have f5:=ty_append
 have f6:=md_get
 have f7:=md_set
 have f8:=md_del
 repeat (any_goals (first | assumption | wp_step))
 refine append_get hx ?_
 exact wpAny_pure hq
theorem append_call{tk:Tok}{R:Result→Shared→Prop}(hx:h.get? a=some { cls := .type "list",data := .seq xs k })
 (hq:R (.ok (.ret (.ref h.objs.size))) ⟨h.push { cls := .type "builtin_function_or_method",data := .fields #[.builtin "list.append",.ref a] },g,d,t,os⟩) :
  codeAny (model prog w) A (.call (.builtin "list.__getattribute__") ⟨[.ref a,.str "append" tk],[]⟩) R ⟨h,g,d,t,os⟩ :=
 codeAny_call_builtin F.slot_list_getattribute.plain F.entry_list_ga (F.slot_list_getattribute.check _ _ _ _ _ _ _ _ (show (⟨h,g,d,t,os⟩:Shared).TypeIs (.ref a) "list" from ⟨_,hx,rfl⟩) (F.args_list_getattribute_2 _ _) (append_entry hx hq))
theorem append_by{tk:Tok}{Q:Value→Shared→Prop}(hx:h.get? a=some { cls := .type "list",data := .seq xs k })
 (hq:Q (.ref h.objs.size) ⟨h.push { cls := .type "builtin_function_or_method",data := .fields #[.builtin "list.append",.ref a] },g,d,t,os⟩) :
  wpAny (model prog w) A (getAttrBy (.ref a) (.str "append" tk) true true) Q E ⟨h,g,d,t,os⟩:=by
 have hT:(⟨h,g,d,t,os⟩:Shared).TypeIs (.ref a) "list":=⟨_,hx,rfl⟩
 have f2:=F.slot_list_getattribute.lookup
 have f3:=F.slot_list_getattribute.bind (.ref a)
 repeat (any_goals (first | assumption | wp_step))
 refine append_call hx ?_
 repeat (any_goals (first | assumption | wp_step))
theorem getAttr_append{s:Shared}{Q:Value→Shared→Prop}(hx:s.heap.get? a=some { cls := .type "list",data := .seq xs k })
 (hq:Q (.ref s.heap.objs.size) { s with heap:=s.heap.push { cls := .type "builtin_function_or_method",data := .fields #[.builtin "list.append",.ref a] },toks:=s.toks+1 }) :
  wpAny (model prog w) A (getAttr (.ref a) "append" true) Q E s:=by
 unfold getAttr
 obtain ⟨h,g,d,t,os⟩:=s
 exact wpAny_bind (wpAny_mkText (append_by hx hq))
end
section
variable {pe:Pe} {cx:Cx} {n:Nat} {sc:Sc} {loc:Loc} {H H':Hp} {x:V}
theorem s_getAttr(P:PeOk pe cx){A:Around}{E:Value→Shared→Prop}{s:Shared}{ρ:Nat→Addr}{v x:V}{u:Value}{name:Str}{Q:Value→Shared→Prop}(h:fld pe H name v=some x)(I:Inv cx ρ H s)(ru:Rep H.n ρ s.heap u v)
  (hQ:∀ u' s',Stp cx NoW ρ H s ρ H s'→Rep H.n ρ s'.heap u' x→Q u' s'):wpAny cx.M A (getAttr u name true) Q E s:=by
 cases v with
 | ref i =>
  obtain ⟨hi,rfl⟩:=ru.inv_ref
  have h:fldR pe H name i (H.f i)=some x:=h
  generalize e:H.f i=o at h
  cases o with
  | inst C d =>
   have h:fldN pe name i C (H.f d)=some x:=h
   generalize ed:H.f d=o at h
   cases o with
   | ns kvs =>
    obtain ⟨m,hc,hx⟩:=Option.bind_eq_some_iff.mp h
    exact s_getInst P hi e ed hc hx I hQ
   | _=>first | exact noS h | exact noB h | cases h
  | _=>first | exact noS h | exact noB h | cases h
 | _=>first | exact noS h | exact noB h | cases h
theorem attr_eval{A:Around}{env:Env}{ρ:Nat→Addr}{s:Shared}{Q:Value→Shared→Prop}{E}{o:Expr}{name:Str}{pos:Pos}{H1:Hp}{u:V}(hs:isSuper o=false)(h1:GE cx n sc loc o H u H1)(C:Cn cx (n+1) sc loc H A env ρ s)
  (h:∀ u' s1 ρ1,Stp cx NoW ρ H s ρ1 H1 s1→Rep H1.n ρ1 s1.heap u' u→wpAny cx.M A (getAttr u' name true) Q E s1):wpAny cx.M A (eval (.Attribute o name pos) env) Q E s:=by
 rw[arm_eval_Attribute,base_of hs]
 exact wpAny_bind (h1 C.low fun u' s1 ρ1 S1 r1=>wpAny_bind (wpAny_standAt (wpAny_bind (wpAny_holding (wpAny_mono (h u' s1 ρ1 S1 r1) (fun w s2 q=>wpAny_bind (wpAny_letTemporaryGo (wpAny_pure q))) fun ι ι e=>e)))))
theorem e_Attr(P:PeOk pe cx){o:Expr}{name:Str}{pos:Pos}{H1:Hp}{u:V}(hs:isSuper o=false)(h1:GE cx n sc loc o H u H1)(h2:fld pe H1 name u=some x):GE cx (n+1) sc loc (.Attribute o name pos) H x H1:=fun C hQ =>
 attr_eval hs h1 C fun ι ι ι S1 r1=>s_getAttr P h2 S1.inv r1 fun w s2 S2 r2=>hQ _ _ _ (S1.trans S2) r2
theorem e_AttrL{o:Expr}{pos:Pos}{H1:Hp}{i:Nat}{xs:List V}(hs:isSuper o=false)(h1:GE cx n sc loc o H (.ref i) H1)(h2:H1.f i = .list xs):GE cx (n+1) sc loc (.Attribute o "append" pos) H (.bm .lAppend (.ref i)) H1:=fun C hQ =>
 attr_eval hs h1 C fun ι ι ι S1 r1=>by
  obtain ⟨hi,rfl⟩:=r1.inv_ref
  obtain ⟨vs,k,ho,q⟩:=S1.inv.list hi h2
  exact getAttr_append ho (hQ _ _ _ (S1.trans (Stp.grown _ S1.inv (fun ι ι e=>Heap.get?_push_of_some _ e) rfl rfl)) (.bm (p := .lAppend) rfl (Heap.get?_push_size _ rfl) (.ref i hi)))
end
end
section
section
variable {pe:Pe} {cx:Cx} {n:Nat} {sc:Sc} {loc:Loc} {H H':Hp} {x:V}
theorem Stp.adopt{ρ s ρ2 H2 s2 s3}(S:Stp cx NoW ρ H s ρ2 H2 s2){a:Addr}{o:AObj}(hfr:s.heap.get? a=none)(hsy:a≠sysModules)(hno:∀ i,i<H2.n→ρ2 i≠a)(hg:cx.g.get? a=none)(hnf:∀ ob,s2.heap.get? a=some ob→ob.cls = .type "list"∨ob.cls = .type "dict")(hs:Heap.ExtBut a s2.heap s3.heap)
  (ho:RepO cx.prog cx.w (H2.n+1) (fun j=>if j=H2.n then a else ρ2 j) s3.heap a o) (hos:s3.os=s2.os) (hb:s3.gens=s2.gens):Stp cx NoW ρ H s (fun j=>if j=H2.n then a else ρ2 j) (H2.alloc o) s3:=by
 have agr:∀ i,i<H2.n→(fun j=>if j=H2.n then a else ρ2 j) i=ρ2 i:=fun i hi=>if_neg (Nat.ne_of_lt hi)
 have ns:∀ i,i<H2.n+1→(if i=H2.n then a else ρ2 i)≠sysModules:=fun i hi=>by
  by_cases h:i=H2.n
  ·rw[if_pos h]; exact hsy
  ·rw[if_neg h]; exact S.inv.nsys i (Nat.lt_of_le_of_ne (Nat.le_of_lt_succ hi) h)
 have fro:∀ b ob,s2.heap.get? b=some ob→b≠a→s3.heap.get? b=some ob:=fun b ob e hb=>hs b ob hb e
 have K:Kp H2.n ρ2 s2.heap (H2.n+1) (fun j=>if j=H2.n then a else ρ2 j) s3.heap→Stp cx NoW ρ H s (fun j=>if j=H2.n then a else ρ2 j) (H2.alloc o) s3:=fun K=>by
  refine ⟨⟨fun b o e=>fro b o (S.inv.keep b o e) (fun q=>by rw[q,hg] at e; first | contradiction | cases e),hos.trans S.inv.os,hb▸S.inv.bare,fun i hi => ?_,fun i j hi hj q => ?_,fun i hi => ?_,S.inv.st,ns⟩,Nat.le_trans S.le (Nat.le_succ _),fun i hi=>(agr i (Nat.lt_of_lt_of_le hi S.le)).trans (S.agr i hi),fun i h1 h2 => ?_,fun b ob e hm hw=>fro b ob (S.ext b ob e hm hw) (fun q=>by rw[q,hfr] at e; first | contradiction | cases e),fun g x e=>hb▸S.gx g x e⟩
  ·show RepO _ _ (H2.n+1) _ _ (if i=H2.n then a else ρ2 i) (if i=H2.n then o else H2.f i)
   by_cases h:i=H2.n
   ·rw[if_pos h,if_pos h]; exact ho
   ·rw[if_neg h,if_neg h]
    have hi':i<H2.n:=Nat.lt_of_le_of_ne (Nat.le_of_lt_succ hi) h
    obtain ⟨ob,e,_⟩:=(S.inv.objs i hi').some
    exact (S.inv.objs i hi').mono K ((fro _ _ e (hno i hi')).trans e.symm)
  ·replace q:(if i=H2.n then a else ρ2 i)=(if j=H2.n then a else ρ2 j):=q
   by_cases h:i=H2.n <;> by_cases h':j=H2.n
   ·rw[h,h']
   ·rw[if_pos h,if_neg h'] at q
    exact absurd q.symm (hno j (Nat.lt_of_le_of_ne (Nat.le_of_lt_succ hj) h'))
   ·rw[if_neg h,if_pos h'] at q
    exact absurd q (hno i (Nat.lt_of_le_of_ne (Nat.le_of_lt_succ hi) h))
   ·rw[if_neg h,if_neg h'] at q
    exact S.inv.inj i j (Nat.lt_of_le_of_ne (Nat.le_of_lt_succ hi) h) (Nat.lt_of_le_of_ne (Nat.le_of_lt_succ hj) h') q
  ·show cx.g.get? (if i=H2.n then a else ρ2 i)=none
   by_cases h:i=H2.n
   ·rw[if_pos h]; exact hg
   ·rw[if_neg h]; exact S.inv.low i (Nat.lt_of_le_of_ne (Nat.le_of_lt_succ hi) h)
  ·show s.heap.get? (if i=H2.n then a else ρ2 i)=none
   by_cases h:i=H2.n
   ·rw[if_pos h]; exact hfr
   ·rw[if_neg h]; exact S.fresh i h1 (Nat.lt_of_le_of_ne (Nat.le_of_lt_succ h2) h)
 refine K ⟨Nat.le_succ _,agr,fun b ob e hc=>fro b ob e fun q => ?_⟩
 subst q
 rcases hnf ob e with h | h <;> have hc:=hc.1 <;> rw[h] at hc <;> exact absurd hc (by decide+kernel)
theorem e_List{es:List Expr}{pos:Pos}{xs:List V}{H1 H2:Hp}(h1:GL cx n sc loc es H xs H1)(hl:xs.length≤lim)(e:H1.alloc (.list xs)=H2):GE cx (n+1) sc loc (.List es pos) H (.ref H1.n) H2:=fun C hQ=>by
 subst e
 rw[arm_eval_List]
 exact wpAny_bind (wpAny_standAt (wpAny_bind (h1.2.2 (pos:=pos) C.low fun vs s1 ρ1 S1 r1=>s_newList S1.inv r1 hl fun v s2 ρ2 S2 r2=>hQ v s2 ρ2 (S1.trans S2) r2)))
theorem e_Tuple{es:List Expr}{b:Nat}{pos:Pos}{xs:List V}{H1:Hp}(h1:GL cx n sc loc es H xs H1)(hl:xs.length≤lim):GE cx (n+1) sc loc (.Tuple es b pos) H (.tup xs) H1:=fun C hQ=>by
 rw[arm_eval_Tuple]
 exact wpAny_bind (wpAny_standAt (wpAny_bind (h1.2.2 (pos:=pos) C.low fun vs s1 ρ1 S1 r1=>s_newTuple S1.inv r1 hl fun v s2 S2 r2=>hQ v s2 ρ1 (S1.trans S2) r2)))
theorem e_Dict0{pos:Pos}{H1:Hp}(e:H.alloc (.dict [])=H1):GE cx (n+1) sc loc (.Dict [] [] pos) H (.ref H.n) H1:=fun {A env ρ s Q E} C hQ=>by
 subst e
 refine wpAny_Dict_empty (hQ _ _ (fun j=>if j=H.n then s.heap.objs.size else ρ j) (Stp.new _ C.inv (get?_size _) C.inv.neS (fun ι ι e=>Heap.get?_push_of_some _ e) ?_ rfl rfl) rep_new)
 exact ⟨[],⟨_,#[],0,Heap.get?_push_size _ rfl,⟨rfl,rfl,rfl⟩,rfl,fun e he=>(by simp at he),.nil,.nil⟩,rfl,.nil⟩
theorem look_rep(P:PeOk pe cx){env:Env}{s:Shared}{ρ:Nat→Addr}{y:Str}{v:V}(h:look pe sc loc y=some v)(N:EnvOk cx env sc)(X:Vars cx env H.n ρ s.heap loc):∃ u,Rep H.n ρ s.heap u v:=by
 unfold look at h
 split at h
 ·first | contradiction | cases h
 ·generalize hk:sc.lookup y=k at h
  cases k with
  | none=>first | contradiction | cases h
  | some k =>
   cases k with
   | «local» =>
    obtain ⟨m,hn,hm⟩:=X.ns
    obtain ⟨u,_,r⟩:=hm y v h (N.kind' hk (by decide))
    exact ⟨u,r⟩
   | cell =>
    obtain ⟨c,u,_,_,r⟩:=X.cell y v h (.inl (N.kind' hk (by decide)))
    exact ⟨u,r⟩
   | free =>
    obtain ⟨c,u,_,_,r⟩:=X.cell y v h ((N.names y _ hk).elim .inr fun q => .inl q.2)
    exact ⟨u,r⟩
   | globalImplicit =>
    obtain ⟨u,r,_⟩:=P.glob h
    exact ⟨u,r _ _ _⟩
   | _=>first | exact noS h | exact noB h | cases h
theorem e_Set(P:PeOk pe cx){a b:Str}{ap bp sp pos:Pos}{k0:Str}{d:Nat}{kvs:List (Str×V)}{H1:Hp}(ha:look pe sc loc a=some (.str k0))(hb:look pe sc loc b=some (.ref d))(hd:H.f d = .dict kvs)(hl:kvs.length≤4)(e:H.alloc (.set (addAll [k0] (kvs.map (·.1))))=H1):
  GE cx (n+1) sc loc (.Set [.Name a ap,.Starred (.Name b bp) sp] 0 pos) H (.ref H.n) H1:=fun {A env ρ s Q E} C hQ=>by
 subst e
 obtain ⟨a1,a2,I,X⟩:=C
 have look1:∀ (s':Shared),(∀ b o,s.heap.get? b=some o→s'.heap.get? b=some o)→s'.os=s.os→s'.gens=s.gens→Stp cx NoW ρ H s ρ H s':=fun s' hk h1 h2=>Stp.grown _ I hk h1 h2
 obtain ⟨u,ru⟩:=look_rep P hb a2 X
 obtain ⟨hi,rfl⟩:=ru.inv_ref
 obtain ⟨ps,hD,hn,q⟩:=I.dict hi hd
 have hz:ps.length=kvs.length:=by have:=congrArg List.length hn; simpa using this
 obtain ⟨cq,hcode⟩:=a2.code
 rw[arm_eval_Set]
 refine wpAny_bind (wpAny_standAt (wpAny_bind (s_main (h₀:=s.heap) (hcode.keeps I.keep) fun bb => ?_)))
 show wpAny _ _ (setDisplay .oneByOne bb [(false,do let v ← eval (.Name a ap) env; standAt pos; pure v),(true,do let v ← eval (.Name b bp) env; standAt pos; pure v)]) _ _ _
 refine s_display (d:=ρ d) (kvs:=ps) (k0:=k0) a1.handled (fun {s' Q'} hk h1 h2 hq => ?_) (fun {s' Q'} hk h1 h2 hq => ?_) hD (I.notSys P.sys hi) (by trivial) fun h' tk hk hS => ?_
 ·have S:=look1 s' hk h1 h2
  refine wpAny_bind (s_Name P ha a2 S.inv (X.step I S) fun fv rf=>wpAny_bind (wpAny_standAt (wpAny_pure ?_)))
  obtain ⟨t,rfl⟩:=rf.inv_str
  exact hq t
 ·have S:=look1 s' hk h1 h2
  refine wpAny_bind (s_Name P hb a2 S.inv (X.step I S) fun fv rf=>wpAny_bind (wpAny_standAt (wpAny_pure ?_)))
  obtain ⟨_,rfl⟩:=rf.inv_ref
  exact hq
 ·refine hQ _ _ (fun j=>if j=H.n then s.heap.objs.size else ρ j) (Stp.new _ I (get?_size _) I.neS hk ?_ rfl rfl) rep_new
  rw[hn] at hS
  exact hS
end
end
section
section
variable {pe:Pe} {cx:Cx} {n:Nat} {sc:Sc} {loc:Loc} {H H':Hp} {x:V}
theorem under_tc(A:Around)(args:Args):(A.under (.builtin "type.__call__" args)).handled=A.handled∧(A.under (.builtin "type.__call__" args)).depth≤A.depth+2∧(A.under (.builtin "type.__call__" args)).units≤A.units+10:=by
 refine ⟨rfl,?_,?_⟩
 ·show A.depth+_≤_
  have:(Code.builtin "type.__call__" args).weight≤2:=by
   unfold Code.weight
   have h1:(Code.builtin "type.__call__" args).frames=0:=by first | rfl | kernel_rfl
   have h2:(Code.builtin "type.__call__" args).isGuard=false:=by first | rfl | kernel_rfl
   have h3:(Code.builtin "type.__call__" args).isCaller=false:=by first | rfl | kernel_rfl
   rw[h1,h2,h3]
   split <;> simp
  trivial
 ·show A.units+_≤_
  have:(Code.builtin "type.__call__" args).cUnits=1:=by kernel_rfl
  trivial
theorem ArF.tc{A:Around}(a:Ar (n+1) A)(args:Args):ArF n (A.under (.builtin "type.__call__" args)):=by
 obtain ⟨h1,h2,h3⟩:=under_tc A args
 exact ⟨h1.trans a.handled,by have:=a.depth; trivial,by have:=a.units; trivial⟩
theorem make_sound(P:PeOk pe cx){C g:Addr}{args:List V}{kws:List (Str×V)}(hI:pe.init C=some g)
  (h:GRun cx n g (.ref (H.n+1)::args) kws ((H.alloc (.ns [])).alloc (.inst C H.n)) .none H')
  {A s ρ vs kvs} {Q:Value→Shared→Prop} {E} (a1:Ar (n+1) A) (I:Inv cx ρ H s) (ra:RepL H.n ρ s.heap vs args) (rk:RepK H.n ρ s.heap kvs kws)
  (hQ:∀ v s' ρ',Stp cx NoW ρ H s ρ' H' s'→Rep H'.n ρ' s'.heap v (.ref (H.n+1))→Q v s'):wpAny cx.M A (call (.ref C) vs kvs) Q E s:=by
 obtain ⟨hm,hf,ht⟩:=P.init hI
 have X:=kin_at P I
 refine wpAny_call ?_
 obtain ⟨h0,g0,d,t,os⟩:=s
 refine make_core (makes_of X hm) (looks_findIn X hf) (fun self=>bind_fn X self ht) (.inl rfl) ?_
 have S1:Stp cx NoW ρ H ⟨h0,g0,d,t,os⟩ (fun j=>if j=H.n then h0.objs.size else ρ j) (H.alloc (.ns [])) ⟨h0.push emptyDict,g0,d,t,os⟩ :=
  Stp.new _ I (get?_size _) I.neS (fun ι ι e=>Heap.get?_push_of_some _ e) ⟨#[],_,Heap.get?_push_size _ rfl,by intro e he; simp at he,Nat.le_refl _,fun ι ι q=>by simp at q,fun ι ι=>rfl⟩ rfl rfl
 have S2:=Stp.new NoW S1.inv (a:=h0.objs.size+1) (o := .inst C H.n) (s':=⟨(h0.push emptyDict).push (instObj C h0.objs.size),g0,d,t,os⟩)
  (by have:=get?_size (h0.push emptyDict); rwa [Heap.size_push] at this) (by have:=S1.inv.neS; rwa [show (⟨h0.push emptyDict,g0,d,t,os⟩:Shared).heap.objs.size=h0.objs.size+1 from Heap.size_push ..] at this) (fun ι ι e=>Heap.get?_push_of_some _ e)
  (by
   refine ⟨Nat.lt_succ_of_lt (Nat.lt_succ_self _),?_⟩
   have h1:(if H.n=(H.alloc (.ns [])).n then h0.objs.size+1 else if H.n=H.n then h0.objs.size else ρ H.n)=h0.objs.size:=by
    rw[if_neg (show ¬ H.n=(H.alloc (.ns [])).n from Nat.ne_of_lt (Nat.lt_succ_self H.n)),if_pos rfl]
   show Heap.get? _ _=some { cls:=Value.ref C,dict:=some (if H.n=(H.alloc (.ns [])).n then h0.objs.size+1 else if H.n=H.n then h0.objs.size else ρ H.n),data := .plain }
   rw[h1]
   have:=Heap.get?_push_size (h0.push emptyDict) (o:=instObj C h0.objs.size) rfl
   rwa [Heap.size_push] at this) rfl rfl
 have S:=S1.trans S2
 have hr:Rep (H.n+1+1) (fun j=>if j=(H.alloc (.ns [])).n then h0.objs.size+1 else (fun j=>if j=H.n then h0.objs.size else ρ j) j) ((h0.push emptyDict).push (instObj C h0.objs.size)) (.ref (h0.objs.size+1)) (.ref (H.n+1)):=by
  have:=Rep.ref (n:=H.n+1+1) (ρ:=fun j=>if j=(H.alloc (.ns [])).n then h0.objs.size+1 else (fun j=>if j=H.n then h0.objs.size else ρ j) j) (h:=(h0.push emptyDict).push (instObj C h0.objs.size)) (H.n+1) (Nat.lt_succ_self _)
  rwa [show (if H.n+1=(H.alloc (.ns [])).n then h0.objs.size+1 else (fun j=>if j=H.n then h0.objs.size else ρ j) (H.n+1))=h0.objs.size+1 from if_pos rfl] at this
 refine h (ArF.tc a1 _) S2.inv (.cons hr (S.repL I ra)) ⟨rk.names,S.repL I rk.vals⟩ fun v s' ρ' S' r' => ?_
 have:=r'.inv_none
 exact ⟨this,hQ _ _ _ (S.trans S') (S'.rep S2.inv hr)⟩
theorem RepL.inv1{n ρ h vs x}(r:RepL n ρ h vs [x]):∃ v,vs=[v]∧Rep n ρ h v x:=by
 cases r with | cons a b=>cases b; exact ⟨_,rfl,a⟩
theorem RepL.inv2{n ρ h vs x y}(r:RepL n ρ h vs [x,y]):Ex2 fun v w=>vs=[v,w]∧Rep n ρ h v x∧Rep n ρ h w y:=by
 cases r with | cons a b=>obtain ⟨w,rfl,c⟩:=b.inv1; exact ⟨_,_,rfl,a,c⟩
theorem RepL.inv0{n ρ h vs}(r:RepL n ρ h vs []):vs=[]:=by cases r; rfl
end
structure Prm (H:Hp) (p:Pm) (y:V) (args:List V) (x:V) (H':Hp):Prop where
 dir:∀ {cx:Cx} {A:Around} {s:Shared} {ρ:Nat→Addr} {w:Value} {vs:List Value} {Q:Value→Shared→Prop} {E:Value→Shared→Prop},HasSys cx→Inv cx ρ H s→Rep H.n ρ s.heap w y→RepL H.n ρ s.heap vs args→(∀ v s' ρ',Stp cx NoW ρ H s ρ' H' s'→Rep H'.n ρ' s'.heap v x→Q v s')→wpAny cx.M A (call (.builtin p.id) (w::vs)) Q E s
 bnd:p.obj=true→∀ {cx:Cx} {A:Around} {s:Shared} {ρ:Nat→Addr} {a:Addr} {w:Value} {vs:List Value} {Q:Value→Shared→Prop} {E:Value→Shared→Prop},Inv cx ρ H s→s.heap.get? a=some { cls := .type "builtin_function_or_method",data := .fields #[.builtin p.id,w] }→Rep H.n ρ s.heap w y→RepL H.n ρ s.heap vs args→(∀ v s' ρ',Stp cx NoW ρ H s ρ' H' s'→Rep H'.n ρ' s'.heap v x→Q v s')→wpAny cx.M A (call (.ref a) vs) Q E s
theorem Prm.pv_append{H:Hp}{i:Nat}{xs:List V}{v:V}{H1:Hp}(hf:H.f i = .list xs)(hl:xs.length<lim)(e:H.put i (.list (xs++[v]))=H1):Prm H .lAppend (.ref i) [v] .none H1 where
 dir:=fun hg I rw_ ra hQ=>by
  subst e; obtain ⟨hi,rfl⟩:=rw_.inv_ref; obtain ⟨v,rfl,rv⟩:=ra.inv1
  exact p_append hi hf hl I rv fun s' S=>hQ _ _ _ S .none
 bnd:=fun _ {cx A s ρ a w vs Q E} I ho rw_ ra hQ=>by
  subst e; obtain ⟨hi,rfl⟩:=rw_.inv_ref; obtain ⟨v,rfl,rv⟩:=ra.inv1
  exact bound_append ho hi hf hl I rv fun s' S=>hQ _ _ _ S .none
theorem Prm.pv_pop{H:Hp}{i:Nat}{xs:List V}{v:V}{H1:Hp}(hf:H.f i = .list xs)(hv:xs.getLast? = some v)(hl:xs.length≤lim)(e:H.put i (.list xs.dropLast)=H1):Prm H .lPop (.ref i) [] v H1 where
 dir:=fun hg I rw_ ra hQ=>by
  subst e; obtain ⟨hi,rfl⟩:=rw_.inv_ref; cases ra.inv0
  exact p_pop hi hf hv hl I fun v s' S rv=>hQ _ _ _ S rv
 bnd:=fun h=>noB h
theorem Prm.pv_sort{H:Hp}{i:Nat}{xs ys:List V}{H1:Hp}(hf:H.f i = .list xs)(hy:SortV xs ys)(e:H.put i (.list ys)=H1):Prm H .lSort (.ref i) [] .none H1 where
 dir:=fun hg I rw_ ra hQ=>by
  subst e; obtain ⟨hi,rfl⟩:=rw_.inv_ref; cases ra.inv0
  exact p_sort hi hf hy I fun s' S=>hQ _ _ _ S .none
 bnd:=fun h=>noB h
theorem Prm.pv_items{H:Hp}{i:Nat}{kvs:List (Str×V)}(hf:H.f i = .dict kvs):Prm H .dItems (.ref i) [] (.view i) H where
 dir:=fun hg I rw_ ra hQ=>by
  obtain ⟨hi,rfl⟩:=rw_.inv_ref; cases ra.inv0
  exact p_items hg hi hf I fun v s' S r=>hQ _ _ _ S r
 bnd:=fun h=>noB h
theorem Prm.pv_get{H:Hp}{i:Nat}{kvs:List (Str×V)}{k:Str}(hf:H.f i = .dict kvs):Prm H .dGet (.ref i) [.str k] ((kvs.lookup k).getD .none) H where
 dir:=fun hg I rw_ ra hQ=>by
  obtain ⟨hi,rfl⟩:=rw_.inv_ref; obtain ⟨v,rfl,rv⟩:=ra.inv1; obtain ⟨t,rfl⟩:=rv.inv_str
  exact p_get hg hi hf I fun v s' S r=>hQ _ _ _ S r
 bnd:=fun h=>noB h
theorem Prm.pv_get2{H:Hp}{i:Nat}{kvs:List (Str×V)}{k:Str}{d:V}(hf:H.f i = .dict kvs):Prm H .dGet (.ref i) [.str k,d] ((kvs.lookup k).getD d) H where
 dir:=fun hg I rw_ ra hQ=>by
  obtain ⟨hi,rfl⟩:=rw_.inv_ref; obtain ⟨v,w2,rfl,rv,rw2⟩:=ra.inv2; obtain ⟨t,rfl⟩:=rv.inv_str
  exact p_get2 hg hi hf I rw2 fun v s' S r=>hQ _ _ _ S r
 bnd:=fun h=>noB h
theorem Prm.pv_sadd{H:Hp}{i:Nat}{ks:List Str}{k:Str}{H1:Hp}(hf:H.f i = .set ks)(hl:ks.length<1000)(e:H.put i (.set (addL ks k))=H1):Prm H .sAdd (.ref i) [.str k] .none H1 where
 dir:=fun hg I rw_ ra hQ=>by
  subst e; obtain ⟨hi,rfl⟩:=rw_.inv_ref; obtain ⟨v,rfl,rv⟩:=ra.inv1; obtain ⟨t,rfl⟩:=rv.inv_str
  exact p_sadd hi hf hl I fun s' S=>hQ _ _ _ S .none
 bnd:=fun h=>noB h
theorem Prm.pv_join{H:Hp}{i:Nat}{xs:List V}{l:List Str}{x:Str}(hf:H.f i = .list xs)(hl:strsOf xs=some l)(hok:JoinOk x l=true):Prm H .tJoin (.str x) [.ref i] (.str (Txt.join x l)) H where
 dir:=fun hg I rw_ ra hQ=>by
  obtain ⟨t,rfl⟩:=rw_.inv_str; obtain ⟨v,rfl,rv⟩:=ra.inv1; obtain ⟨hi,rfl⟩:=rv.inv_ref
  exact p_join hi hf hl hok I fun v s' S r=>hQ _ _ _ S r
 bnd:=fun _ {cx A s ρ a w vs Q E} I ho rw_ ra hQ=>by
  obtain ⟨t,rfl⟩:=rw_.inv_str; obtain ⟨v,rfl,rv⟩:=ra.inv1; obtain ⟨hi,rfl⟩:=rv.inv_ref
  exact bound_join ho hi hf hl hok I fun v s' S r=>hQ _ _ _ S r
theorem Prm.pv_rsplit{H:Hp}{x y:Str}{k:Int}{H1:Hp}(hc:y.length≠0∧x.length+2≤lim∧0≤k∧k<1000)(e:H.alloc (.list ((Txt.rsplitMax x y k).map .str))=H1):Prm H .tRsplit (.str x) [.str y,.int k] (.ref H.n) H1 where
 dir:=fun hg I rw_ ra hQ=>by
  subst e; obtain ⟨t,rfl⟩:=rw_.inv_str; obtain ⟨v,w,rfl,rv,rw2⟩:=ra.inv2; obtain ⟨t1,rfl⟩:=rv.inv_str; obtain ⟨t2,rfl⟩:=rw2.inv_int
  exact h_rsplit hc.1 hc.2.1 hc.2.2 fun l tk e=>new_strs I e hQ
 bnd:=fun h=>noB h
theorem Prm.pv_split1{H:Hp}{x y:Str}{H1:Hp}(hc:y.length≠0∧x.length+2≤lim)(e:H.alloc (.list ((Txt.split x y).map .str))=H1):Prm H .tSplit (.str x) [.str y] (.ref H.n) H1 where
 dir:=fun hg I rw_ ra hQ=>by
  subst e; obtain ⟨t,rfl⟩:=rw_.inv_str; obtain ⟨v,rfl,rv⟩:=ra.inv1; obtain ⟨t1,rfl⟩:=rv.inv_str
  exact h_split1 hc.1 hc.2 fun l tk e=>new_strs I e hQ
 bnd:=fun h=>noB h
theorem Prm.pv_starts{H:Hp}{x y:Str} : Prm H .tStarts (.str x) [.str y] (.bool (Txt.startswith x y)) H where
 dir:=fun hg I rw_ ra hQ=>by
  obtain ⟨t,rfl⟩:=rw_.inv_str; obtain ⟨v,rfl,rv⟩:=ra.inv1; obtain ⟨t1,rfl⟩:=rv.inv_str
  exact SC.startswith (hQ _ _ _ (Stp.refl _ I) (.bool _))
 bnd:=fun h=>noB h
structure PrF (pe:Pe) (H:Hp) (b:Bf) (args:List V) (x:V) (H':Hp):Prop where
 go:∀ {cx:Cx} {A:Around} {s:Shared} {ρ:Nat→Addr} {vs:List Value} {Q:Value→Shared→Prop} {E:Value→Shared→Prop},PeOk pe cx→A.handled=none→Inv cx ρ H s→RepL H.n ρ s.heap vs args→(∀ v s' ρ',Stp cx NoW ρ H s ρ' H' s'→Rep H'.n ρ' s'.heap v x→Q v s')→wpAny cx.M A (call b.val vs) Q E s
theorem PrF.fv_len{pe:Pe}{H:Hp}{i:Nat}{xs:List V}(hf:H.f i = .list xs)(hl:xs.length≤lim):PrF pe H .len [.ref i] (.int xs.length) H:=⟨fun {cx A s ρ vs Q E} P hh I ra hQ=>by
 obtain ⟨v,rfl,rv⟩:=ra.inv1; obtain ⟨hi,rfl⟩:=rv.inv_ref
 exact f_len hi hf hl I fun v s' S r=>hQ _ _ _ S r⟩
theorem PrF.fv_lenS{pe:Pe}{H:Hp}{x:Str}(hl:x.length≤lim):PrF pe H .len [.str x] (.int x.length) H:=⟨fun {cx A s ρ vs Q E} P hh I ra hQ=>by
 obtain ⟨v,rfl,rv⟩:=ra.inv1; obtain ⟨t,rfl⟩:=rv.inv_str
 have e24:lim=16777216:=rfl
 exact PySem.P.len_str (by trivial) (hQ _ _ _ (Stp.toks _ I) (.int _ _))⟩
theorem PrF.fv_divmod{pe:Pe}{H:Hp}{x y:Int}(hy:0<y∧y<2 ^ 30):PrF pe H .divmod [.int x,.int y] (.tup [.int (x/y),.int (x % y)]) H:=⟨fun {cx A s ρ vs Q E} P hh I ra hQ=>by
 obtain ⟨v,w,rfl,rv,rw⟩:=ra.inv2; obtain ⟨t,rfl⟩:=rv.inv_int; obtain ⟨t',rfl⟩:=rw.inv_int
 exact f_divmod hy I fun v s' S r=>hQ _ _ _ S r⟩
theorem PrF.fv_dict{pe:Pe}{H:Hp}{i:Nat}{kvs:List (Str×V)}{H1:Hp}(hf:H.f i = .dict kvs)(hl:kvs.length≤lim)(e:H.alloc (.dict kvs)=H1):PrF pe H .dict [.ref i] (.ref H.n) H1:=⟨fun {cx A s ρ vs Q E} P hh I ra hQ=>by
 subst e; obtain ⟨v,rfl,rv⟩:=ra.inv1; obtain ⟨hi,rfl⟩:=rv.inv_ref
 exact f_dict P.sys hi hf hl I fun v s' ρ' S r=>hQ _ _ _ S r⟩
theorem PrF.fv_set{pe:Pe}{H:Hp}{H1:Hp}(e:H.alloc (.set [])=H1):PrF pe H .set [] (.ref H.n) H1:=⟨fun {cx A s ρ vs Q E} P hh I ra hQ=>by
 subst e; cases ra.inv0; exact f_set I hQ⟩
theorem PrF.fv_sortedL{pe:Pe}{H:Hp}{i:Nat}{xs ys:List V}{H1:Hp}(hf:H.f i = .list xs)(hy:SortV xs ys)(e:H.alloc (.list ys)=H1):PrF pe H .sorted [.ref i] (.ref H.n) H1:=⟨fun {cx A s ρ vs Q E} P hh I ra hQ=>by
 subst e; obtain ⟨v,rfl,rv⟩:=ra.inv1; obtain ⟨hi,rfl⟩:=rv.inv_ref
 exact f_sortedL hh hi hf hy I hQ⟩
theorem PrF.fv_sorted{pe:Pe}{H:Hp}{i:Nat}{kvs:List (Str×V)}{ys:List V}{H1:Hp}(hf:H.f i = .dict kvs)(hy:SortV (kvs.map fun p => .tup [.str p.1,p.2]) ys)(e:H.alloc (.list ys)=H1):PrF pe H .sorted [.view i] (.ref H.n) H1:=⟨fun {cx A s ρ vs Q E} P hh I ra hQ=>by
 subst e; obtain ⟨v,rfl,rv⟩:=ra.inv1
 exact f_sorted hh hf hy I rv hQ⟩
section
variable {pe:Pe} {cx:Cx} {n:Nat} {sc:Sc} {loc:Loc} {H H':Hp} {x:V}
theorem RepK.nil{n ρ h kvs}(rk:RepK n ρ h kvs []):kvs=[]:=List.map_eq_nil_iff.mp rk.names
variable {args:List V} {kws:List (Str×V)} {f:Addr} {v:V}
theorem s_mt{y:V}(h:GRun cx n f (y::args) kws H v H'):GCall cx (n+1) (.mt f y) args kws H v H':=fun a1 I c ra rk hQ=>by
 cases c with
 | obj rf =>
  obtain ⟨a,w,rfl,ho,rw1⟩:=rf.inv_mt
  exact wpAny_call (method_code ho (h a1.f I (.cons rw1 ra) rk hQ))
 | mt rw1=>exact wpAny_call (h a1.f I (.cons rw1 ra) rk hQ)
theorem s_fn(h:GRun cx n f args kws H v H'):GCall cx (n+1) (.fn f) args kws H v H':=fun a1 I c ra rk hQ=>by
 cases c with
 | obj rf=>cases rf.inv_fn; exact wpAny_call (h a1.f I ra rk hQ)
theorem s_cls(P:PeOk pe cx){g:Addr}(hI:pe.init f=some g)(h:GRun cx n g (.ref (H.n+1)::args) kws ((H.alloc (.ns [])).alloc (.inst f H.n)) .none H'):GCall cx (n+1) (.fn f) args kws H (.ref (H.n+1)) H':=fun a1 I c ra rk hQ=>by
 cases c with
 | obj rf=>cases rf.inv_fn; exact make_sound P hI h a1 I ra rk hQ
theorem s_bm(P:PeOk pe cx){m:Pm}{y:V}(h:Prm H m y args v H'):GCall cx (n+1) (.bm m y) args [] H v H':=fun a1 I c ra rk hQ=>by
 cases rk.nil
 cases c with
 | obj rf =>
  obtain ⟨hp,a,w,rfl,ho,rw1⟩:=rf.inv_bm
  exact h.bnd hp I ho rw1 ra hQ
 | bm rw1=>exact h.dir P.sys I rw1 ra hQ
theorem s_bf(P:PeOk pe cx){m:Bf}(h:PrF pe H m args v H'):GCall cx (n+1) (.bf m) args [] H v H':=fun a1 I c ra rk hQ=>by
 cases rk.nil
 cases c with
 | obj rf=>cases rf.inv_bf; exact h.go P a1.handled I ra hQ
end
end
section
section
variable {pe:Pe} {cx:Cx} {n:Nat} {sc:Sc} {loc:Loc} {H H':Hp} {x:V}
theorem Stp.but{ρ:Nat→Addr}{s s':Shared}(W:Addr→Prop)(I:Inv cx ρ H s){a:Addr}(hW:W a)(ap:∀ i,i<H.n→ρ i≠a)(hg:cx.g.get? a=none)(hnf:∀ o,s.heap.get? a=some o→¬ Fz o)
  (hx:Heap.ExtBut a s.heap s'.heap) (hos:s'.os=s.os) (hb:s'.gens=s.gens):Stp cx W ρ H s ρ H s':=by
 have K:Kp H.n ρ s.heap H.n ρ s'.heap:=⟨Nat.le_refl _,fun ι ι=>rfl,fun b o e hc=>hx b o (fun q=>by subst q; exact hnf o e hc) e⟩
 refine ⟨⟨fun b o e=>hx b o (fun q=>by subst q; rw[hg] at e; first | contradiction | cases e) (I.keep b o e),hos.trans I.os,hb▸I.bare,fun i hi => ?_,I.inj,I.low,I.st,I.nsys⟩,Nat.le_refl _,fun ι ι=>rfl,fun i h1 h2=>absurd h2 (Nat.not_lt.mpr h1),fun b o e hm hw=>hx b o (fun q=>by subst q; exact hw hW) e,fun ι ι e=>hb▸e⟩
 obtain ⟨ob,e,_⟩:=(I.objs i hi).some
 exact (I.objs i hi).mono K ((hx _ _ (ap i hi) e).trans e.symm)
theorem nf_ns{h:Heap}{a:Addr}{m}(x:h.Ns a m):∀ o,h.get? a=some o→¬ Fz o:=fun o e hz=>by
 obtain ⟨o',es,ep,e',hd,_⟩:=x
 rw[e] at e'; first | contradiction | cases e'
 rcases hz.2 with ⟨_,_,q⟩ | ⟨_,q⟩ <;> rw[hd] at q <;> cases q
theorem nf_cell{h:Heap}{a:Addr}{v}(x:h.IsCell a v):∀ o,h.get? a=some o→¬ Fz o:=fun o e hz=>by
 obtain ⟨o',e',hd⟩:=x
 rw[e] at e'; first | contradiction | cases e'
 rcases hz.2 with ⟨_,_,q⟩ | ⟨_,q⟩ <;> rw[hd] at q <;> cases q
theorem nf_cls{h:Heap}{a:Addr}{o':Obj}{c:Value}(e':h.get? a=some o')(hc:o'.cls=c)(hn:nfB c=true):∀ o,h.get? a=some o→¬ Fz o:=fun o e hz=>by
 rw[e] at e'; first | contradiction | cases e'
 have q:=hz.1
 rw[hc,hn] at q; contradiction
theorem Vars.nfW{env:Env}{ρ:Nat→Addr}{k:Nat}{h:Heap}(X:Vars cx env k ρ h loc):∀ a o,h.get? a=some o→Fz o→¬ Wr env a:=fun a o e hz w=>by
 obtain ⟨m,hn,_⟩:=X.ns
 rcases w with rfl | ⟨y,w⟩
 ·exact nf_ns hn o e hz
 ·obtain ⟨⟨v,hv⟩,_⟩:=X.cells y a w
  exact nf_cell hv o e hz
theorem Vars.rep{env:Env}{ρ ρ':Nat→Addr}{s s':Shared}(I:Inv cx ρ H s)(X:Vars cx env H.n ρ s.heap loc)(S:Stp cx (Wr env) ρ H s ρ' H' s'){v y}(q:Rep H.n ρ s.heap v y):Rep H'.n ρ' s'.heap v y :=
 q.mono (S.kp I X.nfW)
theorem Vars.repL{env:Env}{ρ ρ':Nat→Addr}{s s':Shared}(I:Inv cx ρ H s)(X:Vars cx env H.n ρ s.heap loc)(S:Stp cx (Wr env) ρ H s ρ' H' s'){v y}(q:RepL H.n ρ s.heap v y):RepL H'.n ρ' s'.heap v y :=
 q.mono (S.kp I X.nfW)
theorem Vars.congr{env:Env}{ρ:Nat→Addr}{k:Nat}{h:Heap}{loc':Loc}(X:Vars cx env k ρ h loc)(e:∀ y v,loc'.lookup y=some v→loc.lookup y=some v):Vars cx env k ρ h loc':=by
 obtain ⟨m,hn,hm⟩:=X.ns
 exact ⟨⟨m,hn,fun y v q=>hm y v (e y v q)⟩,fun y v q=>X.cell y v (e y v q),X.apL,X.apC,X.cells,X.has,X.dist,X.low⟩
theorem own_kind{env:Env}{y:Str}(h:own sc y=true)(N:EnvOk cx env sc):env.kindOf y=some .local∨env.kindOf y=some .cell:=by
 unfold own at h
 generalize e:sc.lookup y=k at h
 cases k with
 | none=>first | contradiction | cases h
 | some k =>
  cases k with
  | «local» => exact .inl (N.kind' e (by decide))
  | cell=>exact .inr (N.kind' e (by decide))
  | _=>first | exact noS h | exact noB h | cases h
theorem s_store'{A:Around}{env:Env}{s:Shared}{ρ:Nat→Addr}{E}{y:Str}{u:Value}{v:V}{Q:Unit→Shared→Prop}{W:Addr→Prop}(hWl:W env.locals)(hWc:∀ c,env.kindOf y=some .cell→env.cells.lookup y=some c→W c)(hk:env.kindOf y=some .local∨env.kindOf y=some .cell)(hf:env.scope.kind = .function)(I:Inv cx ρ H s)(X:Vars cx env H.n ρ s.heap loc)
  (q:Rep H.n ρ s.heap u v) (hQ:∀ s',Stp cx W ρ H s ρ H s'→Stp cx (Wr env) ρ H s ρ H s'→Vars cx env H.n ρ s'.heap (setL loc y v)→Q () s'):wpAny cx.M A (storeName env y u) Q E s:=by
 obtain ⟨m,hn,hm⟩:=X.ns
 rcases hk with hk | hk
 ·refine wpAny_storeName_local hk hn (fun h' hn' hs' => ?_) (by rw[hf]; rfl)
  have S:Stp cx (Wr env) ρ H s ρ H { s with heap:=h',toks:=s.toks+1 }:=Stp.but _ I (.inl rfl) X.apL X.low (nf_ns hn) hs'.extBut rfl rfl
  refine hQ _ (Stp.but _ I hWl X.apL X.low (nf_ns hn) hs'.extBut rfl rfl) S ⟨⟨_,hn',fun z w e k => ?_⟩,fun z w e k => ?_,X.apL,X.apC,fun z c e => ?_,X.has,X.dist,X.low⟩
  ·rw[lookup_setL] at e
   by_cases hz:z=y
   ·rw[if_pos hz] at e; first | contradiction | cases e
    exact ⟨u,if_pos hz,X.rep I S q⟩
   ·rw[if_neg hz] at e
    obtain ⟨u',h1,h2⟩:=hm z w e k
    exact ⟨u',by rw[if_neg hz]; exact h1,X.rep I S h2⟩
  ·rw[lookup_setL] at e
   by_cases hz:z=y
   ·subst hz; rw[hk] at k; rcases k with k | k <;> cases k
   ·rw[if_neg hz] at e
    obtain ⟨c,u',h1,h2,h3⟩:=X.cell z w e k
    exact ⟨c,u',h1,h2.sameBut hs' (X.cells z c h1).2.1,X.rep I S h3⟩
  ·obtain ⟨⟨v',hv⟩,h1,h2⟩:=X.cells z c e
   exact ⟨⟨v',hv.sameBut hs' h1⟩,h1,h2⟩
 ·obtain ⟨c,hc⟩:=X.has y hk
  obtain ⟨⟨v0,hv⟩,hne,hg⟩:=X.cells y c hc
  refine wpAny_storeName_cell hf hk hc hv fun h' hc' hs' => ?_
  have S:Stp cx (Wr env) ρ H s ρ H { s with heap:=h' }:=Stp.but _ I (.inr ⟨y,hc⟩) (X.apC y c hc) hg (nf_cell hv) hs'.extBut rfl rfl
  refine hQ _ (Stp.but _ I (hWc c hk hc) (X.apC y c hc) hg (nf_cell hv) hs'.extBut rfl rfl) S ⟨⟨_,hn.sameBut hs' (Ne.symm hne),fun z w e k => ?_⟩,fun z w e k => ?_,X.apL,X.apC,fun z c' e => ?_,X.has,X.dist,X.low⟩
  ·rw[lookup_setL] at e
   by_cases hz:z=y
   ·subst hz; rw[hk] at k; first | contradiction | cases k
   ·rw[if_neg hz] at e
    obtain ⟨u',h1,h2⟩:=hm z w e k
    exact ⟨u',h1,X.rep I S h2⟩
  ·rw[lookup_setL] at e
   by_cases hz:z=y
   ·rw[if_pos hz] at e; first | contradiction | cases e
    subst hz
    exact ⟨c,u,hc,hc',X.rep I S q⟩
   ·rw[if_neg hz] at e
    obtain ⟨c',u',h1,h2,h3⟩:=X.cell z w e k
    exact ⟨c',u',h1,h2.sameBut hs' (fun q=>hz (X.dist z y c (by rw[← q]; exact h1) hc)),X.rep I S h3⟩
  ·obtain ⟨⟨v',hv'⟩,h1,h2⟩:=X.cells z c' e
   by_cases hz:c'=c
   ·subst hz; exact ⟨⟨_,hc'⟩,h1,h2⟩
   ·exact ⟨⟨v',hv'.sameBut hs' hz⟩,h1,h2⟩
structure WrOk (sc:Sc) (env:Env) (W:Addr→Prop):Prop where
 l:W env.locals
 c:∀ y c,own sc y=true→env.kindOf y=some .cell→env.cells.lookup y=some c→W c
theorem WrOk.wr(sc:Sc)(env:Env):WrOk sc env (Wr env):=⟨.inl rfl,fun y ι ι ι e => .inr ⟨y,e⟩⟩
theorem s_store{A:Around}{env:Env}{s:Shared}{ρ:Nat→Addr}{E}{y:Str}{u:Value}{v:V}{Q:Unit→Shared→Prop}{W:Addr→Prop}(w:WrOk sc env W)(ho:own sc y=true)(N:EnvOk cx env sc)(I:Inv cx ρ H s)(X:Vars cx env H.n ρ s.heap loc)
  (q:Rep H.n ρ s.heap u v) (hQ:∀ s',Stp cx W ρ H s ρ H s'→Stp cx (Wr env) ρ H s ρ H s'→Vars cx env H.n ρ s'.heap (setL loc y v)→Q () s'):wpAny cx.M A (storeName env y u) Q E s :=
 s_store' w.l (fun c=>w.c y c ho) (own_kind ho N) N.kind I X q hQ
theorem Stp.thenW{ρ ρ':Nat→Addr}{s s' s'':Shared}{W:Addr→Prop}(S:Stp cx W ρ H s ρ' H' s')(T:Stp cx W ρ' H' s' ρ' H' s''):Stp cx W ρ H s ρ' H' s'' :=
 S.transW T fun i h1 h2=>absurd h2 (Nat.not_lt.mpr h1)
theorem isName_eq{t:Expr}{id:Str}(h:isName t=some id):∃ p,t = .Name id p:=by
 cases t with
 | Name i p=>cases h; exact ⟨p,rfl⟩
 | _=>first | exact noS h | exact noB h | cases h
theorem bindTs_cons{t:Expr}{ts:List Expr}{xs:List V}{loc loc':Loc}(h:bindTs sc (t::ts) xs loc=some loc'):Ex4 fun id p y ys=>t = .Name id p∧xs=y::ys∧own sc id=true∧bindTs sc ts ys (setL loc id y)=some loc':=by
 cases xs with
 | nil=>first | contradiction | cases h
 | cons y ys =>
  obtain ⟨id,e,h'⟩:=Option.bind_eq_some_iff.mp h
  obtain ⟨p,rfl⟩:=isName_eq e
  by_cases ho:own sc id=true
  ·rw[if_pos ho] at h'; exact ⟨_,_,_,_,rfl,rfl,ho,h'⟩
  ·rw[if_neg ho] at h'; first | contradiction | cases h'
theorem bindTs_nil{xs:List V}{loc loc':Loc}(h:bindTs sc [] xs loc=some loc'):xs=[]∧loc'=loc:=by
 cases xs with
 | nil=>cases h; exact ⟨rfl,rfl⟩
 | cons y ys=>first | contradiction | cases h
theorem bindTs_sound{A:Around}{env:Env}{ρ:Nat→Addr}{E}{W:Addr→Prop}(w:WrOk sc env W)(N:EnvOk cx env sc){ts:List Expr}:∀ {xs:List V} {us:List Value} {loc loc':Loc} {s:Shared} {Q:Unit→Shared→Prop},bindTs sc ts xs loc=some loc'→Inv cx ρ H s→Vars cx env H.n ρ s.heap loc→RepL H.n ρ s.heap us xs →
  (∀ s',Stp cx W ρ H s ρ H s'→Stp cx (Wr env) ρ H s ρ H s'→Vars cx env H.n ρ s'.heap loc'→Q () s')→wpAny cx.M A (assignInOrder ((assignEach ts env).map (·.2)) us) Q E s:=by
 induction ts with
 | nil =>
  intro xs us loc loc' s Q h I X q hQ
  obtain ⟨rfl,rfl⟩:=bindTs_nil h
  rw[arm_assignEach_nil]
  exact wpAny_pure (hQ s (Stp.refl _ I) (Stp.refl _ I) X)
 | cons t ts ih =>
  intro xs us loc loc' s Q h I X q hQ
  obtain ⟨id,p,y,ys,rfl,rfl,ho,h⟩:=bindTs_cons h
  cases q with
  | cons q1 q2 =>
   have e:(assignEach (.Name id p::ts) env).map (·.2)=assign (.Name id p) env::(assignEach ts env).map (·.2):=rfl
   rw[e]
   refine wpAny_bind (wpAny_holding (wpAny_assign_Name (s_store w ho N I X q1 fun s1 S1 Z1 X1 => ?_)))
   exact ih h S1.inv X1 (X.repL I Z1 q2) fun s2 S2 Z2 X2=>hQ s2 (S1.thenW S2) (Z1.thenW Z2) X2
theorem bindTs_names{env:Env}{ts:List Expr}:∀ {xs:List V} {loc loc':Loc},bindTs sc ts xs loc=some loc'→(assignEach ts env).length=xs.length∧(assignEach ts env).findIdx? (·.1)=none:=by
 induction ts with
 | nil =>
  intro xs loc loc' h
  obtain ⟨rfl,rfl⟩:=bindTs_nil h
  exact ⟨rfl,rfl⟩
 | cons t ts ih =>
  intro xs loc loc' h
  obtain ⟨id,p,y,ys,rfl,rfl,ho,h⟩:=bindTs_cons h
  obtain ⟨h1,h2⟩:=ih h
  have e:assignEach (.Name id p::ts) env=(false,assign (.Name id p) env)::assignEach ts env:=rfl
  rw[e]
  exact ⟨congrArg (· + 1) h1,by rw[List.findIdx?_cons,if_neg Bool.false_ne_true,h2]; rfl⟩
theorem h_draw_list{A:Around}{E}{it t:Addr}{items:Array Value}(hne:t≠it)(n:Nat):∀ (i:Nat) (s:Shared) (Q:List Value→Shared→Prop),s.heap.IsListIter it t i→s.heap.IsList t items→i+n≤items.size →
  (∀ h',h'.IsListIter it t (i+n)→Heap.SameBut it s.heap h'→Q ((items.toList.drop i).take n) { s with heap:=h' })→wpAny cx.M A (draw (.ref it) n) Q E s:=by
 induction n with
 | zero =>
  intro i s Q hit _ _ hQ
  show wpAny _ _ (pure []) Q E s
  exact wpAny_pure (hQ s.heap hit (Heap.SameBut.refl ..))
 | succ n ih =>
  intro i s Q hit ht hle hQ
  have hlt:i<items.size:=by trivial
  show wpAny _ _ (pyNext (.ref it) >>= _) Q E s
  refine wpAny_bind (wpAny_pyNext_list_item hit ht (x:=items[i]) (by simp [hlt]) fun h₁ hit₁ hs₁ => ?_)
  refine wpAny_bind (wpAny_holding (ih (i+1) _ _ hit₁ (ht.extBut hs₁.extBut hne) (by trivial) fun h₂ hit₂ hs₂=>wpAny_pure ?_))
  have hd:items.toList.drop i=items[i]::items.toList.drop (i+1):=by simp [List.drop_eq_getElem_cons,hlt]
  have:=hQ h₂ (by rw[show i+(n+1)=i+1+n by trivial]; exact hit₂) (hs₁.trans hs₂)
  rw[hd,List.take_succ_cons] at this
  exact this
theorem h_unpack_list{A:Around}{E}{s:Shared}{t:Addr}{items:Array Value}{Q:List Value→Shared→Prop}(hh:A.handled=none)(ht:s.heap.IsList t items)
  (hQ:∀ h',Heap.ExtBut s.heap.objs.size s.heap h'→Q items.toList { s with heap:=h' }):wpAny cx.M A (unpackItems (.ref t) items.size none) Q E s:=by
 have hlt:t≠s.heap.objs.size:=by obtain ⟨o,ho,_⟩:=ht; exact Nat.ne_of_lt (Heap.lt_size ho)
 unfold unpackItems
 refine wpAny_bind ?_
 ·unfold notIterableAtAll
  refine wpAny_bind (wpAny_specialOf ht.typeIs slot_list_iter.lookup ?_)
  refine wpAny_pure ?_
  simp only[Bool.false_eq_true,if_false]
  refine wpAny_bind (wpAny_holding (wpAny_pyIter_list ht ?_))
  refine wpAny_bind (wpAny_holding (h_draw_list hlt items.size 0 _ _ ⟨_,Heap.get?_push_size _ rfl,rfl,rfl⟩ (ht.push _) (by trivial) fun h₁ hit₁ hs₁ => ?_))
  have hall:List.take items.size (List.drop 0 items.toList)=items.toList:=by
   rw[List.drop_zero]; exact List.take_of_length_le (by simp)
  rw[hall]
  rw[if_neg (by simp)]
  have ht₁:h₁.IsList t items:=(ht.push _).extBut hs₁.extBut hlt
  refine wpAny_bind (wpAny_holding (wpAny_pyNext_list_end hh hit₁ ht₁ (by simp) fun h₂ he₂ => ?_))
  simp only[Option.isSome_none,Bool.false_eq_true,if_false]
  refine wpAny_pure (hQ h₂ fun b o hb e=>he₂ b o hb (hs₁.extBut b o hb (Heap.get?_push_of_some _ e)))
theorem unp_sound{A:Around}{E}{s:Shared}{ρ:Nat→Addr}{v:V}{xs:List V}{u:Value}{Q:List Value→Shared→Prop}(hh:A.handled=none)(h:unp H v=some xs)(I:Inv cx ρ H s)(q:Rep H.n ρ s.heap u v)
  (hQ:∀ us s',Stp cx NoW ρ H s ρ H s'→RepL H.n ρ s'.heap us xs→Q us s'):wpAny cx.M A (unpackItems u xs.length none) Q E s:=by
 have go:∀ {items:Array Value} {h'},RepL H.n ρ s.heap items.toList xs→Heap.ExtBut s.heap.objs.size s.heap h'→Q items.toList { s with heap:=h' }:=fun {items h'} r e=>by
  have S:Stp cx NoW ρ H s ρ H { s with heap:=h' }:=Stp.grown _ I (fun a o q=>e a o (Nat.ne_of_lt (Heap.lt_size q)) q) rfl rfl
  exact hQ _ _ S (S.repL I r)
 cases v with
 | tup ys =>
  cases h
  obtain ⟨a,vs,k,rfl,e,r⟩:=q.inv_tup
  rw[← size_of r]
  exact wpAny_unpackItems_tuple hh (isTuple_of e) fun h' e=>go r e
 | ref i =>
  obtain ⟨hi,rfl⟩:=q.inv_ref
  have h:unpO (H.f i)=some xs:=h
  generalize hf:H.f i=o at h
  cases o with
  | list ys =>
   cases h
   obtain ⟨vs,k,e,r⟩:=I.list hi hf
   rw[← size_of r]
   exact h_unpack_list hh (isList_of e) fun h' e=>go r e
  | _=>first | exact noS h | exact noB h | cases h
 | _=>first | exact noS h | exact noB h | cases h
theorem bindT_sound{A:Around}{env:Env}{ρ:Nat→Addr}{E}{W:Addr→Prop}(w:WrOk sc env W){t:Expr}{v:V}{u:Value}{loc':Loc}{s:Shared}{Q:Unit→Shared→Prop}(hh:A.handled=none)(N:EnvOk cx env sc)(h:bindT sc H t v loc=some loc')(I:Inv cx ρ H s)(X:Vars cx env H.n ρ s.heap loc)
  (q:Rep H.n ρ s.heap u v) (hQ:∀ s',Stp cx W ρ H s ρ H s'→Stp cx (Wr env) ρ H s ρ H s'→Vars cx env H.n ρ s'.heap loc'→Q () s'):wpAny cx.M A (assign t env u) Q E s:=by
 cases t with
 | Name id p =>
  obtain ⟨ho,rfl⟩:=ite_some h
  exact wpAny_assign_Name (s_store w ho N I X q hQ)
 | Tuple ts a p =>
  obtain ⟨xs,hx,h⟩:=Option.bind_eq_some_iff.mp h
  obtain ⟨h1,h2⟩:=bindTs_names (env:=env) h
  rw[arm_assign_Tuple]
  refine wpAny_bind (wpAny_standAt ?_)
  unfold unpack
  rw[h1,h2]
  refine wpAny_bind (wpAny_holding (unp_sound hh hx I q fun us s1 S1 r1 => ?_))
  exact bindTs_sound w N h S1.inv (X.step I S1) r1 fun s2 S2 Z2 X2=>hQ s2 ((S1.weaken fun ι f=>f.elim).thenW S2) ((S1.weaken fun ι f=>f.elim).thenW Z2) X2
 | _=>first | exact noS h | exact noB h | cases h
end
end
section
section
variable {pe:Pe} {cx:Cx} {n:Nat} {sc:Sc} {loc:Loc} {H H':Hp} {x:V}
inductive ItAt (n:Nat) (ρ:Nat→Addr) (h:Heap) (a:Addr) (k:Nat):V→Prop
 | list {i:Nat}:i<n→h.IsListIter a (ρ i) k→ItAt n ρ h a k (.ref i)
 | tup {t:Addr} {vs:Array Value} {kk:Nat} {xs:List V}:h.get? t=some { cls := .type "tuple",data := .seq vs kk }→RepL n ρ h vs.toList xs→h.IsTupleIter a t k→ItAt n ρ h a k (.tup xs)
theorem ItAt.mono{n ρ h n' ρ' h' a k v}(K:Kp n ρ h n' ρ' h')(x:ItAt n ρ h a k v)(e:∀ o,h.get? a=some o→h'.get? a=some o):ItAt n' ρ' h' a k v:=by
 cases x with
 | list hi it=>exact .list (Nat.lt_of_lt_of_le hi K.le) (by rw[K.agr _ hi]; obtain ⟨o,h1,h2⟩:=it; exact ⟨o,e o h1,h2⟩)
 | tup e1 q it=>exact .tup (K.fro _ _ e1 ⟨nfT,.inl ⟨_,_,rfl⟩⟩) (q.mono K) (by obtain ⟨o,h1,h2⟩:=it; exact ⟨o,e o h1,h2⟩)
theorem ItAt.obj{n ρ h a k v}(x:ItAt n ρ h a k v):Ex3 fun o c vs=>h.get? a=some o∧o.cls = .type c∧o.data = .fields vs∧["enumerate","zip","dict_itemiterator","dict_reverseitemiterator","odict_iterator","itertools.zip_longest","itertools.pairwise"].contains c=false∧¬ Fz o:=by
 cases x with
 | list hi it =>
  obtain ⟨o,h1,h2,h3⟩:=it
  exact ⟨o,_,_,h1,h2,h3,by decide,nf_cls h1 h2 (by decide+kernel) o h1⟩
 | tup e1 q it =>
  obtain ⟨o,h1,h2,h3⟩:=it
  exact ⟨o,_,_,h1,h2,h3,by decide,nf_cls h1 h2 (by decide+kernel) o h1⟩
theorem items_cases{v:V}{its:List V×Option Nat}(h:items H v=some its):(Ex2 fun i xs=>v = .ref i∧H.f i = .list xs∧its=(xs,some i))∨∃ xs,v = .tup xs∧its=(xs,none):=by
 cases v with
 | ref i =>
  have h:itemsO i (H.f i)=some its:=h
  generalize hf:H.f i=o at h
  cases o with
  | list xs=>cases h; exact .inl ⟨_,_,rfl,hf,rfl⟩
  | _=>first | exact noS h | exact noB h | cases h
 | tup xs=>cases h; exact .inr ⟨_,rfl,rfl⟩
 | _=>first | exact noS h | exact noB h | cases h
theorem items_stands{v:V}{xs:List V}{src:Option Nat}{H1:Hp}(h:items H v=some (xs,src))(st:stands H H1 src):items H1 v=some (xs,src):=by
 rcases items_cases h with ⟨i,ys,rfl,hf,e⟩ | ⟨ys,rfl,e⟩
 ·first | contradiction | cases e
  show itemsO i (H1.f i)=_
  rw[show H1.f i=H.f i from st,hf]; rfl
 ·cases e; rfl
theorem it_start{A:Around}{E}{s:Shared}{ρ:Nat→Addr}{v:V}{its:List V×Option Nat}{u:Value}{Q:Value→Shared→Prop}(h:items H v=some its)(I:Inv cx ρ H s)(q:Rep H.n ρ s.heap u v)
  (hQ:∀ a s',s.heap.get? a=none→Stp cx NoW ρ H s ρ H s'→ItAt H.n ρ s'.heap a 0 v→Q (.ref a) s'):wpAny cx.M A (pyIter u) Q E s:=by
 have hp:∀ o:Obj,Stp cx NoW ρ H s ρ H { s with heap:=s.heap.push o }:=fun o=>Stp.grown _ I (fun ι ι e=>Heap.get?_push_of_some _ e) rfl rfl
 rcases items_cases h with ⟨i,ys,rfl,hf,e⟩ | ⟨ys,rfl,e⟩
 ·obtain ⟨hi,rfl⟩:=q.inv_ref
  obtain ⟨vs,k,e,r⟩:=I.list hi hf
  exact wpAny_pyIter_list (isList_of e) (hQ _ _ (get?_size _) (hp _) (.list hi ⟨_,Heap.get?_push_size _ rfl,rfl,rfl⟩))
 ·obtain ⟨a,vs,k,rfl,e,r⟩:=q.inv_tup
  exact wpAny_pyIter_tuple (isTuple_of e) (hQ _ _ (get?_size _) (hp _) (.tup (Heap.get?_push_of_some _ e) ((hp _).repL I r) ⟨_,Heap.get?_push_size _ rfl,rfl,rfl⟩))
structure Out (cx:Cx) (env:Env) (n:Nat) (ρ:Nat→Addr) (h:Heap) (a:Addr):Prop where
 al:∃ o,h.get? a=some o∧¬ Fz o
 ap:∀ i,i<n→ρ i≠a
 nw:¬ Wr env a
 low:cx.g.get? a=none
theorem Out.step{env:Env}{ρ ρ':Nat→Addr}{s s':Shared}{W:Addr→Prop}{a:Addr}(O:Out cx env H.n ρ s.heap a)(S:Stp cx W ρ H s ρ' H' s')(hw:¬ W a):Out cx env H'.n ρ' s'.heap a:=by
 obtain ⟨o,e,hz⟩:=O.al
 exact ⟨⟨o,S.ext a o e O.ap hw,hz⟩,S.old e O.ap,O.nw,O.low⟩
theorem Out.nf{env:Env}{ρ:Nat→Addr}{n:Nat}{h:Heap}{a:Addr}(O:Out cx env n ρ h a):∀ o,h.get? a=some o→¬ Fz o:=fun o e=>by
 obtain ⟨o',e',hz⟩:=O.al
 rw[e] at e'; cases e'; exact hz
noncomputable abbrev WL(env:Env)(as:List Addr):Addr→Prop:=fun b=>Wr env b∨b∈as
theorem it_next{A:Around}{env:Env}{E}{s:Shared}{ρ:Nat→Addr}{v y:V}{its:List V×Option Nat}{k:Nat}{a:Addr}{Q:Option Value→Shared→Prop}(h:items H v=some its)(hk:its.1[k]? = some y)(I:Inv cx ρ H s)(t:ItAt H.n ρ s.heap a k v)(O:Out cx env H.n ρ s.heap a)
  (hQ:∀ u s',Stp cx (· = a) ρ H s ρ H s'→Out cx env H.n ρ s'.heap a→ItAt H.n ρ s'.heap a (k+1) v→Rep H.n ρ s'.heap u y→Q (some u) s'):wpAny cx.M A (pyNext (.ref a)) Q E s:=by
 have go:∀ h' u,Heap.SameBut a s.heap h'→Rep H.n ρ s.heap u y→(Kp H.n ρ s.heap H.n ρ h'→ItAt H.n ρ h' a (k+1) v)→Q (some u) { s with heap:=h' }:=fun h' u hs r hi=>by
  have S:Stp cx (· = a) ρ H s ρ H { s with heap:=h' }:=Stp.but _ I rfl O.ap O.low O.nf hs.extBut rfl rfl
  have K:=S.kp I (fun b o e hz q=>O.nf o (q▸e) hz)
  obtain ⟨o,_,_,e,_,_,_,hz⟩:=(hi K).obj
  exact hQ u _ S ⟨⟨o,e,hz⟩,O.ap,O.nw,O.low⟩ (hi K) (r.mono K)
 rcases items_cases h with ⟨i,ys,rfl,hf,rfl⟩ | ⟨ys,rfl,rfl⟩
 ·cases t with
  | list hi it =>
   obtain ⟨vs,kk,e,q⟩:=I.list hi hf
   obtain ⟨u,hu,ru⟩:=q.get k hk
   exact wpAny_pyNext_list_item it (isList_of e) (Array.getElem?_toList▸hu) fun h' it' hs=>go h' u hs ru fun K => .list hi it'
 ·cases t with
  | tup e q it =>
   obtain ⟨u,hu,ru⟩:=q.get k hk
   exact wpAny_pyNext_tuple_item it (isTuple_of e) (Array.getElem?_toList▸hu) fun h' it' hs=>go h' u hs ru fun K => .tup (K.fro _ _ e ⟨nfT,.inl ⟨_,_,rfl⟩⟩) (q.mono K) it'
theorem it_end{A:Around}{env:Env}{E}{s:Shared}{ρ:Nat→Addr}{v:V}{its:List V×Option Nat}{k:Nat}{a:Addr}{Q:Option Value→Shared→Prop}(hh:A.handled=none)(h:items H v=some its)(hk:its.1[k]? = none)(I:Inv cx ρ H s)(t:ItAt H.n ρ s.heap a k v)(O:Out cx env H.n ρ s.heap a)
  (hQ:∀ s',Stp cx (· = a) ρ H s ρ H s'→Q none s'):wpAny cx.M A (pyNext (.ref a)) Q E s:=by
 have go:∀ h',Heap.ExtBut a s.heap h'→Q none { s with heap:=h' }:=fun h' hs=>hQ _ (Stp.but _ I rfl O.ap O.low O.nf hs rfl rfl)
 have none_of:∀ {vs:Array Value} {xs:List V},RepL H.n ρ s.heap vs.toList xs→xs[k]? = none→vs[k]? = none:=fun {vs xs} q e=>by
  rw[List.getElem?_eq_none_iff] at e
  rw[Array.getElem?_eq_none_iff,size_of q]; exact e
 rcases items_cases h with ⟨i,ys,rfl,hf,rfl⟩ | ⟨ys,rfl,rfl⟩
 ·cases t with
  | list hi it =>
   obtain ⟨vs,kk,e,q⟩:=I.list hi hf
   exact wpAny_pyNext_list_end hh it (isList_of e) (none_of q hk) go
 ·cases t with
  | tup e q it=>exact wpAny_pyNext_tuple_end hh it (isTuple_of e) (none_of q hk) go
theorem own_skip{A:Around}{E}{s:Shared}{a:Addr}{o:Obj}{c:String}{vs:Array Value}{target:Expr}{u:Value}{Q:Unit→Shared→Prop}(e:s.heap.get? a=some o)(hc:o.cls = .type c)(hd:o.data = .fields vs)
  (hn:["enumerate","zip","dict_itemiterator","dict_reverseitemiterator","odict_iterator","itertools.zip_longest","itertools.pairwise"].contains c=false) (hQ:Q () s):wpAny cx.M A (letOwnedTupleGo target (.ref a) u) Q E s:=by
 have go:wpAny cx.M A (load a >>= fun o=>match o.cls,o.data with
  | .type n,.fields vs =>
   if ["enumerate","zip","dict_itemiterator","dict_reverseitemiterator","odict_iterator","itertools.zip_longest","itertools.pairwise"].contains n&&vs[0]? == some (rawInt (match u with | .ref b=>b | _=>0)) then
    rule "for.unpacks-the-owned-tuple" >>= fun ι =>
    updateField a 0 .none
   else pure ()
  | _,_=>pure ()) Q E s:=by
  refine wpAny_bind (wpAny_load e ?_)
  rw[hc,hd]
  refine wiF ?_ (wpAny_pure hQ)
  rw[hn]; exact Bool.false_ne_true
 have p:wpAny cx.M A (pure ()) Q E s:=wpAny_pure hQ
 cases target with
 | Tuple=>cases u <;> first | exact go | exact p
 | List=>cases u <;> first | exact go | exact p
 | _=>exact p
theorem it_own{A:Around}{E}{s:Shared}{ρ:Nat→Addr}{n:Nat}{v:V}{k:Nat}{a:Addr}{target:Expr}{u:Value}{Q:Unit→Shared→Prop}(t:ItAt n ρ s.heap a k v)(hQ:Q () s):wpAny cx.M A (letOwnedTupleGo target (.ref a) u) Q E s:=by
 obtain ⟨o,c,vs,e,hc,hd,hn,_⟩:=t.obj
 exact own_skip e hc hd hn hQ
theorem it_self{A:Around}{E}{s:Shared}{ρ:Nat→Addr}{n:Nat}{v:V}{k:Nat}{a:Addr}{Q:Value→Shared→Prop}(t:ItAt n ρ s.heap a k v)(hQ:Q (.ref a) s):wpAny cx.M A (pyIter (.ref a)) Q E s:=by
 cases t with
 | list _ it=>exact wpAny_pyIter_listiter it hQ
 | tup _ _ it=>exact wpAny_pyIter_tupleiter it hQ
theorem Stp.seqL{env:Env}{as:List Addr}{ρ ρ1 ρ2:Nat→Addr}{s s1 s2:Shared}{H1 H2:Hp}{loc1:Loc}(S:Stp cx (WL env as) ρ H s ρ1 H1 s1)(X1:Vars cx env H1.n ρ1 s1.heap loc1)(al:∀ a∈as,∃ o,s1.heap.get? a=some o)(T:Stp cx (WL env as) ρ1 H1 s1 ρ2 H2 s2):Stp cx (WL env as) ρ H s ρ2 H2 s2 :=
 S.transW T fun i h1 h2 w=>by
  have hf:=T.fresh i h1 h2
  rcases w with w | w
  ·exact X1.notW T i h1 h2 w
  ·obtain ⟨o,e⟩:=al _ w
   rw[hf] at e; first | contradiction | cases e
theorem Stp.dropA{W:Addr→Prop}{a:Addr}{ρ ρ':Nat→Addr}{s s':Shared}(S:Stp cx (fun b=>W b∨b=a) ρ H s ρ' H' s')(ha:s.heap.get? a=none):Stp cx W ρ H s ρ' H' s' :=
 ⟨S.inv,S.le,S.agr,S.fresh,fun b o e hm hw=>S.ext b o e hm fun q=>q.elim hw fun q=>(by rw[q,ha] at e; exact noS e),S.gx⟩
theorem Vars.same{env:Env}{ρ:Nat→Addr}{s s':Shared}{a:Addr}(I:Inv cx ρ H s)(X:Vars cx env H.n ρ s.heap loc)(S:Stp cx (· = a) ρ H s ρ H s')(O:Out cx env H.n ρ s.heap a):Vars cx env H.n ρ s'.heap loc:=by
 have K:=S.kp I (fun b o e hz q=>O.nf o (q▸e) hz)
 obtain ⟨m,hn,hm⟩:=X.ns
 have hLa:¬ env.locals=a:=fun q=>O.nw (.inl q.symm)
 have up:∀ c,(∀ i,i<H.n→ρ i≠c)→¬ c=a→∀ o,s.heap.get? c=some o→s'.heap.get? c=some o:=fun c hc hne o e=>S.ext c o e hc hne
 have hca:∀ y c,env.cells.lookup y=some c→¬ c=a:=fun y c e q=>O.nw (.inr ⟨y,q▸e⟩)
 refine ⟨⟨m,hn.at' (up _ X.apL hLa),fun y v e k => ?_⟩,fun y v e k => ?_,X.apL,X.apC,fun y c e => ?_,X.has,X.dist,X.low⟩
 ·obtain ⟨u,h1,h2⟩:=hm y v e k
  exact ⟨u,h1,h2.mono K⟩
 ·obtain ⟨c,u,h1,h2,h3⟩:=X.cell y v e k
  exact ⟨c,u,h1,isCell_at h2 (up _ (X.apC y c h1) (hca y c h1)),h3.mono K⟩
 ·obtain ⟨⟨v,hv⟩,h1,h2⟩:=X.cells y c e
  exact ⟨⟨v,isCell_at hv (up _ (X.apC y c e) (hca y c e))⟩,h1,h2⟩
theorem drop_cons{α:Type}{l:List α}{k:Nat}{x:α}{t:List α}(h:l.drop k=x::t):l[k]? = some x∧l.drop (k+1)=t∧k<l.length:=by
 have hk:k<l.length:=by
  rcases Nat.lt_or_ge k l.length with q | q
  ·exact q
  ·rw[List.drop_eq_nil_of_le q] at h; first | contradiction | cases h
 rw[List.drop_eq_getElem_cons hk] at h
 simp only[List.cons.injEq] at h
 exact ⟨by rw[List.getElem?_eq_getElem hk,h.1],h.2,hk⟩
theorem drop_nil{α:Type}{l:List α}{k:Nat}(h:l.drop k=[]):l[k]? = none:=by
 rw[List.getElem?_eq_none_iff]; exact List.drop_eq_nil_iff.mp h
noncomputable def GFor(cx:Cx)(n:Nat)(sc:Sc)(target:Expr)(body:List Stmt)(src:Option Nat)(H0:Hp)(xs:List V)(loc:Loc)(H:Hp)(fl:Fl)(loc':Loc)(H':Hp):Prop :=
 ∀ {A env ρ s v ys k a} {R:Result→Shared→Prop},items H0 v=some (ys,src)→items H v=some (ys,src)→ys.drop k=xs→Cn cx n sc loc H A env ρ s→ItAt H.n ρ s.heap a k v→Out cx env H.n ρ s.heap a →
  (∀ f s' ρ',Stp cx (WL env [a]) ρ H s ρ' H' s'→Vars cx env H'.n ρ' s'.heap loc'→RepF H'.n ρ' s'.heap f fl→R (.ok f) s')→codeAny cx.M A (.forLoop target (.ref a) body [] env) R s
theorem for_unroll{A:Around}{s:Shared}{R:Result→Shared→Prop}{target:Expr}{it:Value}{body:List Stmt}{env:Env}
  (turn:wpAny cx.M A (pyNext it) (fun r s₁=>match r with
   | none=>R (.ok .next) s₁
   | some v=>wpAny cx.M A (letOwnedTupleGo target it v) (fun _ s₁'=>wpAny cx.M A (assign target env v) (fun _ s₂=>wpAny cx.M A (execs body env) (fun f s₃=>match f with
      | .next | .cont=>codeAny cx.M A (.forLoop target it body [] env) R s₃
      | .brk=>R (.ok .next) s₃
      | .ret v=>R (.ok (.ret v)) s₃) (notedBy cx.M A env fun e s'=>R (.error e) s') s₂) (notedBy cx.M A env fun e s'=>R (.error e) s') s₁') (notedBy cx.M A env fun e s'=>R (.error e) s') s₁) (notedBy cx.M A env fun e s'=>R (.error e) s') s) :
  codeAny cx.M A (.forLoop target it body [] env) R s:=by
 refine codeAny_of_tree ?_
 show wpAny _ A ((forTurn target it body [] env).onRaise (fun x=>do noteFrame x env; theTreesLotGoes x)) _ _ s
 refine wpAny_noted ?_
 simp only[forTurn]
 refine wpAny_bind (wpAny_standAt (wpAny_bind (wpAny_onRaise (wpAny_mono turn (fun r s₁ h₁ => ?_) fun ι ι h'=>wpAny_standAt h'))))
 cases r with
 | none=>exact wpAny_pure ⟨rfl,codeAny_block (wpAny_execs_nil h₁)⟩
 | some v =>
  refine wpAny_bind (wpAny_mono h₁ (fun _ s₁' h₁' => ?_) fun ι ι h'=>h')
  refine wpAny_bind (wpAny_mono h₁' (fun _ s₂ h₂=>wpAny_bind (wpAny_mono h₂ (fun f s₃ h₃ => ?_) fun ι ι h'=>h')) fun ι ι h'=>h')
  cases f with
  | next=>exact wpAny_pure ⟨rfl,h₃⟩
  | cont=>exact wpAny_pure ⟨rfl,h₃⟩
  | brk=>exact wpAny_pure h₃
  | ret v=>exact wpAny_pure h₃
variable {src:Option Nat} {H0 H1 H2:Hp} {target:Expr} {body:List Stmt} {xs:List V} {loc1 loc2 loc':Loc} {fl fl':Fl}
theorem Out.has{env:Env}{ρ:Nat→Addr}{k:Nat}{h:Heap}{a:Addr}(O:Out cx env k ρ h a):∀ b∈[a],∃ o,h.get? b=some o:=fun b hb=>by
 obtain ⟨o,e,_⟩:=O.al
 rw[List.mem_singleton] at hb; subst hb; exact ⟨o,e⟩
theorem Stp.one{env:Env}{a:Addr}{ρ ρ':Nat→Addr}{s s':Shared}(S:Stp cx (· = a) ρ H s ρ' H' s'):Stp cx (WL env [a]) ρ H s ρ' H' s':=S.weaken fun b q => .inr (List.mem_singleton.mpr q)
theorem Stp.left{env:Env}{as:List Addr}{ρ ρ':Nat→Addr}{s s':Shared}(S:Stp cx (Wr env) ρ H s ρ' H' s'):Stp cx (WL env as) ρ H s ρ' H' s':=S.weaken fun b q => .inl q
theorem f_nil:GFor cx n sc target body src H0 [] loc H .next loc H:=fun {A env ρ s v ys k a R} _ hi hd C t O hR =>
 for_unroll (it_end C.ar.handled hi (drop_nil hd) C.inv t O fun s2 S2=>hR _ _ _ S2.one (C.vars.same C.inv S2 O) .next)
theorem f_turn(hb:bindT sc H target x loc=some loc1)(hx:GXs cx n sc body loc1 H fl loc2 H1){A env ρ s v ys k a}{R:Result→Shared→Prop}(hi:items H v=some (ys,src))(hd:ys.drop k=x::xs)(C:Cn cx n sc loc H A env ρ s)(t:ItAt H.n ρ s.heap a k v)(O:Out cx env H.n ρ s.heap a)
  (hR:∀ f s' ρ',Stp cx (WL env [a]) ρ H s ρ' H1 s'→Vars cx env H1.n ρ' s'.heap loc2→RepF H1.n ρ' s'.heap f fl→ItAt H1.n ρ' s'.heap a (k+1) v→Out cx env H1.n ρ' s'.heap a →
   match f with | .next | .cont=>codeAny cx.M A (.forLoop target (.ref a) body [] env) R s' | .brk=>R (.ok .next) s' | .ret v=>R (.ok (.ret v)) s'):codeAny cx.M A (.forLoop target (.ref a) body [] env) R s:=by
 refine for_unroll (it_next hi (drop_cons hd).1 C.inv t O fun u s2 S2 O2 t2 r2 => ?_)
 have X2:=C.vars.same C.inv S2 O
 refine it_own t2 (bindT_sound (WrOk.wr sc env) C.ar.handled C.en hb S2.inv X2 r2 fun s3 S3 ι X3 => ?_)
 have O3:=O2.step S3 O2.nw
 refine hx (C.to S3.inv X3) fun f s4 ρ4 S4 X4 rf => ?_
 refine hR f s4 ρ4 ((S2.one.seqL X2 O2.has S3.left).seqL X3 O3.has S4.left) X4 rf (ItAt.mono (S4.kp S3.inv X3.nfW) (t2.mono (S3.kp S2.inv X2.nfW) fun o e=>S3.ext a o e O2.ap O2.nw) fun o e=>S4.ext a o e O3.ap O3.nw) (O3.step S4 O3.nw)
theorem f_cons(hb:bindT sc H target x loc=some loc1)(hx:GXs cx n sc body loc1 H fl loc2 H1)(hg:goesOn fl=true)(st:stands H0 H1 src)(h:GFor cx n sc target body src H0 xs loc2 H1 fl' loc' H2):GFor cx n sc target body src H0 (x::xs) loc H fl' loc' H2:=fun {A env ρ s v ys k a R} hi0 hi hd C t O hR=>by
 refine f_turn hb hx hi hd C t O fun f s1 ρ1 S1 X1 rf t1 O1 => ?_
 have go:=h hi0 (items_stands hi0 st) (drop_cons hd).2.1 (C.to S1.inv X1) t1 O1 fun f s' ρ' S2 X2 r2=>hR f s' ρ' (S1.seqL X1 O1.has S2) X2 r2
 cases rf with
 | next=>exact go
 | cont=>exact go
 | _=>first | exact noS hg | exact noB hg | cases hg
theorem f_ret{v:V}(hb:bindT sc H target x loc=some loc1)(hx:GXs cx n sc body loc1 H (.ret v) loc2 H1):GFor cx n sc target body src H0 (x::xs) loc H (.ret v) loc2 H1:=fun {A env ρ s v ys k a R} hi0 hi hd C t O hR =>
 f_turn hb hx hi hd C t O fun f s1 ρ1 S1 X1 rf t1 O1=>by cases rf with | ret q=>exact hR _ _ _ S1 X1 (.ret q)
theorem f_forget(hl:∀ y v,loc1.lookup y=some v→loc.lookup y=some v)(h:GFor cx n sc target body src H0 xs loc1 H fl loc' H2):GFor cx n sc target body src H0 xs loc H fl loc' H2:=fun hi0 hi hd C t O hR=>h hi0 hi hd (C.to C.inv (C.vars.congr hl)) t O hR
theorem fresh_low{ρ:Nat→Addr}{s:Shared}(I:Inv cx ρ H s){a:Addr}(ha:s.heap.get? a=none):cx.g.get? a=none∧∀ i,i<H.n→ρ i≠a:=by
 refine ⟨?_,fun i hi q => ?_⟩
 ·cases e:cx.g.get? a with
  | none=>rfl
  | some o=>rw[I.keep a o e] at ha; first | contradiction | cases ha
 ·obtain ⟨ob,e,_⟩:=(I.objs i hi).some
  rw[q,ha] at e; first | contradiction | cases e
theorem Out.fresh{env:Env}{ρ:Nat→Addr}{s:Shared}{a:Addr}{h:Heap}(I:Inv cx ρ H s)(X:Vars cx env H.n ρ s.heap loc)(ha:s.heap.get? a=none)(e:∃ o,h.get? a=some o∧¬ Fz o):Out cx env H.n ρ h a:=by
 obtain ⟨hg,hm⟩:=fresh_low I ha
 refine ⟨e,hm,fun w => ?_,hg⟩
 obtain ⟨m,⟨oL,_,_,hoL,_⟩,_⟩:=X.ns
 rcases w with w | ⟨y,w⟩
 ·rw[w,hoL] at ha; first | contradiction | cases ha
 ·obtain ⟨⟨v,o',ho',_⟩,_⟩:=X.cells y a w
  rw[ho'] at ha; first | contradiction | cases ha
theorem notSet_folded{e:Expr}{env:Env}(h:isSetE e=false):∀ x,foldedSetIterable e env x=pure x:=fun x=>by
 cases e <;> first | rfl | contradiction
theorem x_For{iter:Expr}{pos:Pos}{it:V}(hs:isSetE iter=false)(h1:GE cx n sc loc iter H it H1)(hi:items H1 it=some (xs,src))(h2:GFor cx n sc target body src H1 xs loc H1 fl loc' H2):GX cx (n+1) sc (.For target iter body [] pos) loc H fl loc' H2:=fun {A env ρ s Q E} C hQ=>by
 refine wpAny_For (h1 C.low fun u s1 ρ1 S1 r1 => ?_) (notSet_folded hs)
 have C1:=C.low.step S1
 refine it_start hi S1.inv r1 fun a s2 ha S2 t2 => ?_
 obtain ⟨o,_,_,eo,_,_,_,hz⟩:=t2.obj
 refine h2 hi hi List.drop_zero (C1.step S2) t2 (Out.fresh S1.inv C1.vars ha ⟨o,eo,hz⟩) fun f s3 ρ3 S3 X3 rf=>hQ f s3 ρ3 ?_ X3 rf
 have S23:Stp cx (fun b=>Wr env b∨b=a) ρ1 H1 s1 ρ3 H2 s3:=(S2.weaken fun ι f=>f.elim).transW (S3.weaken fun b q=>q.imp id List.mem_singleton.mp) fun i h1 h2 w=>by
  have hf:=S3.fresh i h1 h2
  rcases w with w | w
  ·exact (C1.step S2).vars.notW S3 i h1 h2 w
  ·rw[w,eo] at hf; first | contradiction | cases hf
 exact (S1.weaken fun ι f=>f.elim).transW (S23.dropA ha) fun i h1 h2 w=>C1.vars.notW S23 i h1 h2 w
end
end
section
noncomputable def turnAt(target iter:Expr)(ifs:List Expr)(next:Option Comprehension)(emit:Sem Unit)(e:Expr)(depth:Nat)(it acc:Value)(env:Env):Sem PySem.Fin:=do
 standAt iter.pos
 match ← pyNext it with
 | none=>pure (.done .next)
 | some v =>
  letOwnedTupleGo target it v
  assign target env v
  let mut ok:=true
  for c in ifs do
   if ok then ok ← isTrue c env (eval c env)
  if ok then
   match next with
   | some g' =>
    let x ← eval g'.iter env
    standAt g'.iter.pos
    let x ← if g'.is_async != 0 then foldedIterable g'.iter x else foldedSetIterable g'.iter env x
    let _ ← runOwn (.compStart e (depth+1) (← holding [x] (if g'.is_async != 0 then asyncIter x else pyIter x)) acc env) env
   | none=>emit
  again (.compLoop e depth it acc env)
noncomputable def emitL(elt:Expr)(acc:Value)(env:Env):Sem Unit:=do let _ ← call (.builtin "list.append") [acc,← eval elt env]
noncomputable def emitD(k v:Expr)(acc:Value)(env:Env):Sem Unit:=do
 let kv ← eval k env
 let vv ← holding [kv] (eval v env)
 match acc with
 | .ref d=>do
  standAt { k.pos with endLine:=v.pos.endLine,endCol:=v.pos.endCol }
  holding [kv,vv] (dictSet d kv vv)
 | _=>unsupported "internal:dictcomp"
theorem turn_L{elt target iter:Expr}{ifs:List Expr}{gens:List Comprehension}{scope:Scope}{pos:Pos}{depth:Nat}{it acc:Value}{env:Env}(hg:gens[depth]? = some ⟨target,iter,ifs,0⟩):
  compTurn (.ListComp elt gens scope pos) depth it acc env=turnAt target iter ifs (gens[depth+1]?) (emitL elt acc env) (.ListComp elt gens scope pos) depth it acc env:=by
 unfold compTurn
 dsimp only
 rw[hg]
 rfl
theorem turn_D{k v target iter:Expr}{ifs:List Expr}{gens:List Comprehension}{scope:Scope}{pos:Pos}{depth:Nat}{it acc:Value}{env:Env}(hg:gens[depth]? = some ⟨target,iter,ifs,0⟩):
  compTurn (.DictComp k v gens scope pos) depth it acc env=turnAt target iter ifs (gens[depth+1]?) (emitD k v acc env) (.DictComp k v gens scope pos) depth it acc env:=by
 unfold compTurn
 dsimp only
 rw[hg]
 rfl
section
variable {pe:Pe} {cx:Cx} {n:Nat} {sc:Sc} {loc:Loc} {H H':Hp} {x:V}
structure CompE (e:Expr):Prop where
 den1:∀ (M:Model) prog w d it acc env,M=model prog w→M.den (.compStart e d it acc env)=(compStart e d it acc env).onRaise (fun x=>do noteFrame x env; standAt theWindowsPlace)
 den2:∀ (M:Model) prog w d it acc env,M=model prog w→M.den (.compLoop e d it acc env)=(compTurn e d it acc env).onRaise (fun x=>do noteFrame x env; theTreesLotGoes x)
 und1:∀ (A:Around) d it acc env,A.under (.compStart e d it acc env)=A
 und2:∀ (A:Around) d it acc env,A.under (.compLoop e d it acc env)=A
theorem compE_L(elt gens scope pos):CompE (.ListComp elt gens scope pos):=⟨fun ι ι ι ι ι ι ι e=>by subst e; rfl,fun ι ι ι ι ι ι ι e=>by subst e; rfl,fun ι ι ι ι ι=>Around.under_of_weight rfl,fun ι ι ι ι ι=>Around.under_of_weight rfl⟩
theorem compE_D(k v gens scope pos):CompE (.DictComp k v gens scope pos):=⟨fun ι ι ι ι ι ι ι e=>by subst e; rfl,fun ι ι ι ι ι ι ι e=>by subst e; rfl,fun ι ι ι ι ι=>Around.under_of_weight rfl,fun ι ι ι ι ι=>Around.under_of_weight rfl⟩
theorem comp_start{e:Expr}(C:CompE e){depth:Nat}{target iter:Expr}{ifs:List Expr}{it acc:Value}{env:Env}{A:Around}{R:Result→Shared→Prop}{s:Shared}(hg:(clausesOf e)[depth]? = some ⟨target,iter,ifs,0⟩)
  (h0:codeAny cx.M A (.compLoop e depth it acc env) R s)
  (h:wpAny cx.M A (pyIter it) (fun it' s'=>codeAny cx.M A (.compLoop e depth it' acc env) R s') (notedBy cx.M A env fun x s'=>R (.error x) s') s):codeAny cx.M A (.compStart e depth it acc env) R s:=by
 refine codeAny_of_tree ?_
 rw[C.den1 _ _ _ _ _ _ _ rfl,C.und1]
 refine wpAny_notedAt ?_
 unfold compStart
 rw[hg]
 dsimp only[Option.elim]
 simp only[bne_self_eq_false,Bool.false_eq_true,if_false]
 refine wpAny_bind (wpAny_askSetting (wpAny_ite ?_))
 split
 ·first
   | exact wpAny_bind (wpAny_pure (wpAny_pure (And.intro rfl h0)))
   | exact wpAny_pure (And.intro rfl h0)
 ·exact wpAny_bind (wpAny_rule (wpAny_bind (wpAny_standAt (wpAny_bind (wpAny_mono h (fun it' s' h'=>wpAny_pure (And.intro rfl h')) fun ι ι x=>x)))))
theorem Vars.stepW{env:Env}{ρ ρ':Nat→Addr}{s s':Shared}{W:Addr→Prop}(I:Inv cx ρ H s)(X:Vars cx env H.n ρ s.heap loc)(S:Stp cx W ρ H s ρ' H' s')(hw:∀ b,Wr env b→¬ W b)(hz:∀ b o,s.heap.get? b=some o→Fz o→¬ W b):Vars cx env H'.n ρ' s'.heap loc:=by
 have K:=S.kp I hz
 obtain ⟨m,hn,hm⟩:=X.ns
 obtain ⟨oL,_,_,hoL,_⟩:=id hn
 have upL:=fun o e=>S.ext env.locals o e X.apL (hw _ (.inl rfl))
 have upC:∀ y c,env.cells.lookup y=some c→∀ o,s.heap.get? c=some o→s'.heap.get? c=some o:=fun y c hc o e=>S.ext c o e (X.apC y c hc) (hw _ (.inr ⟨y,hc⟩))
 refine ⟨⟨m,hn.at' upL,fun y v e k => ?_⟩,fun y v e k => ?_,S.old hoL X.apL,fun y c e => ?_,fun y c e => ?_,X.has,X.dist,X.low⟩
 ·obtain ⟨u,a,b⟩:=hm y v e k
  exact ⟨u,a,b.mono K⟩
 ·obtain ⟨c,u,a,b,d⟩:=X.cell y v e k
  exact ⟨c,u,a,isCell_at b (upC y c a),d.mono K⟩
 ·obtain ⟨⟨v,o,ho,_⟩,_,_⟩:=X.cells y c e
  exact S.old ho (X.apC y c e)
 ·obtain ⟨⟨v,hv⟩,a,b⟩:=X.cells y c e
  exact ⟨⟨v,isCell_at hv (upC y c e)⟩,a,b⟩
theorem bindTs_ext{ts:List Expr}:∀ {xs:List V} {loc loc':Loc},bindTs sc ts xs loc=some loc'→∀ y v,loc.lookup y=some v→(∀ z∈ts.filterMap isName,z≠y)→loc'.lookup y=some v:=by
 induction ts with
 | nil=>intro xs loc loc' h y v e _; obtain ⟨rfl,rfl⟩:=bindTs_nil h; exact e
 | cons t ts ih =>
  intro xs loc loc' h y v e hn
  obtain ⟨id,p,z,zs,rfl,rfl,ho,h⟩:=bindTs_cons h
  refine ih h y v ?_ fun z hz=>hn z (List.mem_cons_of_mem _ hz)
  rw[lookup_setL,if_neg (Ne.symm (hn id List.mem_cons_self))]
  exact e
theorem bindT_ext{t:Expr}{v:V}{loc':Loc}(h:bindT sc H t v loc=some loc')(hf:(tnames t).any (fun x=>(loc.lookup x).isSome)=false):∀ y w,loc.lookup y=some w→loc'.lookup y=some w:=by
 intro y w e
 have hn:∀ z∈tnames t,z≠y:=fun z hz q=>by
  rw[List.any_eq_false] at hf
  exact hf z hz (by rw[q,e]; rfl)
 cases t with
 | Name id p =>
  obtain ⟨_,rfl⟩:=ite_some h
  rw[lookup_setL,if_neg (Ne.symm (hn _ List.mem_cons_self))]
  exact e
 | Tuple ts a p =>
  obtain ⟨xs,_,h⟩:=Option.bind_eq_some_iff.mp h
  exact bindTs_ext h y w e hn
 | _=>first | exact noS h | exact noB h | cases h
theorem RepO.stepW{W:Addr→Prop}{ρ ρ':Nat→Addr}{s s':Shared}{D:Addr}{o:AObj}(I:Inv cx ρ H s)(S:Stp cx W ρ H s ρ' H' s')(hz:∀ b ob,s.heap.get? b=Option.some ob→Fz ob→¬ W b)(hD:¬ W D)(ap:∀ i,i<H.n→ρ i≠D)(q:RepO cx.prog cx.w H.n ρ s.heap D o):RepO cx.prog cx.w H'.n ρ' s'.heap D o:=by
 obtain ⟨ob,e,_⟩:=q.some
 exact q.mono (S.kp I hz) ((S.ext D ob e ap hD).trans e.symm)
noncomputable def WC(sc:Sc)(env:Env)(as:List Addr):Addr→Prop:=fun b=>b∈env.locals::as∨∃ y,sc.lookup y=some .cell∧env.cells.lookup y=some b
theorem WC.split{env:Env}{as:List Addr}{b:Addr}(w:WC sc env as b):Wr env b∨b∈as:=by
 rcases w with w | ⟨y,_,w⟩
 ·exact (List.mem_cons.mp w).imp .inl id
 ·exact .inl (.inr ⟨y,w⟩)
theorem Stp.seqC{env:Env}{as:List Addr}{ρ ρ1 ρ2:Nat→Addr}{s s1 s2:Shared}{H1 H2:Hp}{loc1:Loc}(S:Stp cx (WC sc env as) ρ H s ρ1 H1 s1)(X1:Vars cx env H1.n ρ1 s1.heap loc1)(al:∀ a∈as,∃ o,s1.heap.get? a=some o)(T:Stp cx (WC sc env as) ρ1 H1 s1 ρ2 H2 s2):Stp cx (WC sc env as) ρ H s ρ2 H2 s2 :=
 S.transW T fun i h1 h2 w=>by
  have hf:=T.fresh i h1 h2
  rcases w.split with w | w
  ·exact X1.notW T i h1 h2 w
  ·obtain ⟨o,e⟩:=al _ w
   rw[hf] at e; first | contradiction | cases e
theorem wrC{env:Env}{as:List Addr}(N:EnvOk cx env sc):WrOk sc env (WC sc env as) :=
 ⟨.inl (.head _),fun y c ho hk hc=>by
  unfold own at ho
  generalize e:sc.lookup y=k at ho
  cases k with
  | none=>first | contradiction | cases ho
  | some k =>
   cases k with
   | «local» => rw[N.kind' e (by decide)] at hk; first | contradiction | cases hk
   | cell=>exact .inr ⟨y,e,hc⟩
   | _=>first | exact noS ho | exact noB ho | cases ho⟩
theorem wp_eq{α:Type}{M:Model}{A:Around}{m m':Sem α}{Q:α→Shared→Prop}{E}{s:Shared}(e:m=m')(h:wpAny M A m' Q E s):wpAny M A m Q E s:=e▸h
noncomputable def nextOf(next:Option Comprehension)(emit:Sem Unit)(e:Expr)(depth:Nat)(acc:Value)(env:Env)(k:Sem PySem.Fin):Sem PySem.Fin :=
 match next with
 | some g'=>eval g'.iter env >>= fun x=>standAt g'.iter.pos >>= fun ι =>
   (fun jp:Value→Sem PySem.Fin=>if g'.is_async != 0 then foldedIterable g'.iter x >>= jp else foldedSetIterable g'.iter env x >>= jp) fun x =>
    holding [x] (if g'.is_async != 0 then asyncIter x else pyIter x) >>= fun it=>runOwn (.compStart e (depth+1) it acc env) env >>= fun ι=>k
 | none=>emit >>= fun ι=>k
noncomputable def emitOf(em:Em)(acc:Value)(env:Env):Sem Unit:=match em with
 | .el e=>emitL e acc env
 | .kv k v=>emitD k v acc env
noncomputable def objOf(em:Em)(ys:List V):AObj:=match em with
 | .el _ => .list ys
 | .kv _ _ => .dict (dictL ys)
structure CompT (e:Expr) (em:Em):Prop extends CompE e where
 turn:∀ {depth target iter ifs it acc env},(clausesOf e)[depth]? = some ⟨target,iter,ifs,0⟩→compTurn e depth it acc env=turnAt target iter ifs ((clausesOf e)[depth+1]?) (emitOf em acc env) e depth it acc env
theorem compT_L(elt gens scope pos):CompT (.ListComp elt gens scope pos) (.el elt):=⟨compE_L _ _ _ _,fun hg=>turn_L hg⟩
theorem compT_D(k v gens scope pos):CompT (.DictComp k v gens scope pos) (.kv k v):=⟨compE_D _ _ _ _ _,fun hg=>turn_D hg⟩
noncomputable def GCl(cx:Cx)(n:Nat)(sc:Sc)(em:Em)(gens:List Comprehension)(target:Expr)(ifs:List Expr)(loc:Loc)(src:Option Nat)(H0:Hp)(xs:List V)(H:Hp)(ys:List V)(H':Hp):Prop :=
 (tnames target).any (fun x=>(loc.lookup x).isSome)=false→∀ {A env ρ s v zs k a D e depth iter ys0} {R:Result→Shared→Prop},CompT e em→(clausesOf e).drop depth=⟨target,iter,ifs,0⟩::gens→items H0 v=some (zs,src)→items H v=some (zs,src)→zs.drop k=xs →
  Cn cx n sc loc H A env ρ s→ItAt H.n ρ s.heap a k v→Out cx env H.n ρ s.heap a→Out cx env H.n ρ s.heap D→a≠D→RepO cx.prog cx.w H.n ρ s.heap D (objOf em ys0)→ys0.length+ys.length≤lim →
  (∀ s' ρ',Stp cx (WC sc env [a,D]) ρ H s ρ' H' s'→Vars cx env H'.n ρ' s'.heap loc→Out cx env H'.n ρ' s'.heap D→RepO cx.prog cx.w H'.n ρ' s'.heap D (objOf em (ys0++ys))→R (.ok .next) s')→codeAny cx.M A (.compLoop e depth (.ref a) (.ref D) env) R s
noncomputable def GIn(cx:Cx)(n:Nat)(sc:Sc)(em:Em)(gens:List Comprehension)(loc:Loc)(H:Hp)(ys:List V)(H':Hp):Prop :=
 ∀ {A env ρ s D e depth ys0} {Q:PySem.Fin→Shared→Prop} {E} {kk:Sem PySem.Fin},CompT e em→(clausesOf e).drop (depth+1)=gens→Cn cx n sc loc H A env ρ s→Out cx env H.n ρ s.heap D→RepO cx.prog cx.w H.n ρ s.heap D (objOf em ys0)→ys0.length+ys.length≤lim →
  (∀ s' ρ',Stp cx (WC sc env [D]) ρ H s ρ' H' s'→Vars cx env H'.n ρ' s'.heap loc→Out cx env H'.n ρ' s'.heap D→RepO cx.prog cx.w H'.n ρ' s'.heap D (objOf em (ys0++ys))→wpAny cx.M A kk Q E s') →
  wpAny cx.M A (nextOf ((clausesOf e)[depth+1]?) (emitOf em (.ref D) env) e depth (.ref D) env kk) Q E s
variable {em:Em} {gens:List Comprehension} {target iter:Expr} {ifs:List Expr} {src:Option Nat} {H0 H1 H2 H3:Hp} {xs ys zs:List V} {loc1:Loc} {b:Bool}
theorem not_fz{env:Env}{ρ:Nat→Addr}{k:Nat}{h:Heap}{a:Addr}(O:Out cx env k ρ h a):∀ b ob,h.get? b=some ob→Fz ob→¬ b=a:=fun b ob q hz e=>O.nf ob (e▸q) hz
theorem Out.two{env:Env}{ρ:Nat→Addr}{k:Nat}{h:Heap}{a D:Addr}(O:Out cx env k ρ h a)(O':Out cx env k ρ h D):∀ b∈[a,D],∃ o,h.get? b=some o:=fun b hb=>by
 rcases List.mem_cons.mp hb with rfl | hb
 ·obtain ⟨o,e,_⟩:=O.al; exact ⟨o,e⟩
 ·exact O'.has b hb
theorem Stp.oneC{env:Env}{a:Addr}{as:List Addr}{ρ ρ':Nat→Addr}{s s':Shared}(S:Stp cx (· = a) ρ H s ρ' H' s'):Stp cx (WC sc env (a::as)) ρ H s ρ' H' s':=S.weaken fun b q => .inl (.tail _ (q ▸ .head _))
theorem Stp.nilC{env:Env}{as:List Addr}{ρ ρ':Nat→Addr}{s s':Shared}(S:Stp cx (WC sc env []) ρ H s ρ' H' s'):Stp cx (WC sc env as) ρ H s ρ' H' s':=S.weaken fun b q=>q.imp (fun q=>by rw[List.mem_singleton.mp q]; exact .head _) id
theorem Stp.tlC{env:Env}{a D:Addr}{ρ ρ':Nat→Addr}{s s':Shared}(S:Stp cx (WC sc env [D]) ρ H s ρ' H' s'):Stp cx (WC sc env [a,D]) ρ H s ρ' H' s':=S.weaken fun b q=>q.imp (fun q=>(List.mem_cons.mp q).elim (fun q=>by rw[q]; exact .head _) fun q => .tail _ (.tail _ q)) id
theorem cl_end:GCl cx n sc em gens target ifs loc src H0 [] H [] H:=fun _ {A env ρ s v zs k a D e depth iter ys0 R} C hd _ hi hz c t O OD hne rD _ hR=>by
 refine codeAny_of_tree ?_
 rw[C.den2 _ _ _ _ _ _ _ rfl,C.und2,C.turn (drop_cons hd).1]
 refine wpAny_noted ?_
 unfold turnAt
 refine wpAny_bind (wpAny_standAt (wpAny_bind (it_end c.ar.handled hi (drop_nil hz) c.inv t O fun s2 S2=>wpAny_pure ?_)))
 exact hR _ _ S2.oneC (c.vars.same c.inv S2 O) (OD.step S2 fun q=>hne q.symm) (by rw[List.append_nil]; exact RepO.stepW c.inv S2 (not_fz O) (fun q=>hne q.symm) OD.ap rD)
theorem cl_turn(hb:bindT sc H target x loc=some loc1)(h1:GIf cx n sc loc1 ifs H b H1){A env ρ s v zs k a D e depth ys0}{R:Result→Shared→Prop}(C:CompT e em)(hd:(clausesOf e).drop depth=⟨target,iter,ifs,0⟩::gens)(hi:items H v=some (zs,src))(hz:zs.drop k=x::xs)
  (c:Cn cx n sc loc H A env ρ s) (t:ItAt H.n ρ s.heap a k v) (O:Out cx env H.n ρ s.heap a) (OD:Out cx env H.n ρ s.heap D) (hne:a≠D) (rD:RepO cx.prog cx.w H.n ρ s.heap D (objOf em ys0))
  (h:∀ s' ρ',Stp cx (WC sc env [a,D]) ρ H s ρ' H1 s'→Cn cx n sc loc1 H1 A env ρ' s'→ItAt H1.n ρ' s'.heap a (k+1) v→Out cx env H1.n ρ' s'.heap a→Out cx env H1.n ρ' s'.heap D→RepO cx.prog cx.w H1.n ρ' s'.heap D (objOf em ys0) →
   wpAny cx.M A (bif b then nextOf ((clausesOf e)[depth+1]?) (emitOf em (.ref D) env) e depth (.ref D) env (again (.compLoop e depth (.ref a) (.ref D) env)) else again (.compLoop e depth (.ref a) (.ref D) env)) (fun fin s'=>match fin with | .done f=>R (.ok f) s' | .again c'=>c'.quiet=true∧codeAny cx.M A c' R s') (notedBy cx.M A env fun e s'=>R (.error e) s') s') :
  codeAny cx.M A (.compLoop e depth (.ref a) (.ref D) env) R s:=by
 refine codeAny_of_tree ?_
 rw[C.den2 _ _ _ _ _ _ _ rfl,C.und2,C.turn (drop_cons hd).1]
 refine wpAny_noted ?_
 unfold turnAt
 refine wpAny_bind (wpAny_standAt (wpAny_bind (it_next hi (drop_cons hz).1 c.inv t O fun u s2 S2 O2 t2 r2 => ?_)))
 have X2:=c.vars.same c.inv S2 O
 have OD2:=OD.step S2 fun q=>hne q.symm
 have rD2:=RepO.stepW c.inv S2 (not_fz O) (fun q=>hne q.symm) OD.ap rD
 refine wpAny_bind (it_own t2 (wpAny_bind (bindT_sound (wrC (as:=[]) c.en) c.ar.handled c.en hb S2.inv X2 r2 fun s3 S3 Z3 X3 => ?_)))
 have nl:∀ {b},Out cx env H.n ρ s2.heap b→¬ WC sc env [] b:=fun O w=>w.split.elim O.nw fun q=>nomatch q
 have O3:=O2.step S3 (nl O2)
 have OD3:=OD2.step S3 (nl OD2)
 refine wpAny_bind (h1 (c.to S3.inv X3) fun s4 ρ4 S4 => ?_)
 refine wp_eq (m':=bif b then nextOf ((clausesOf e)[depth+1]?) (emitOf em (.ref D) env) e depth (.ref D) env (again (.compLoop e depth (.ref a) (.ref D) env)) else again (.compLoop e depth (.ref a) (.ref D) env)) ?_ (h s4 ρ4 ?_ ((c.to S3.inv X3).step S4) ?_ (O3.step S4 id) (OD3.step S4 id) ?_)
 ·first | contradiction | cases b
  ·rfl
  ·cases (clausesOf e)[depth+1]? <;> rfl
 ·exact (S2.oneC.seqC X2 (O2.two OD2) S3.nilC).seqC X3 (O3.two OD3) (S4.weaken fun ι q=>q.elim)
 ·exact ItAt.mono (S4.kp S3.inv fun ι ι ι ι x=>x) (t2.mono (Z3.kp S2.inv X2.nfW) fun o e=>S3.ext a o e O2.ap (nl O2)) fun o e=>S4.ext a o e O3.ap id
 ·exact RepO.stepW S3.inv S4 (fun ι ι ι ι x=>x) id OD3.ap (RepO.stepW S2.inv Z3 X2.nfW OD2.nw OD2.ap rD2)
theorem cl_skp(hb:bindT sc H target x loc=some loc1)(h1:GIf cx n sc loc1 ifs H false H1)(st:stands H0 H1 src)(h2:GCl cx n sc em gens target ifs loc src H0 xs H1 ys H2):GCl cx n sc em gens target ifs loc src H0 (x::xs) H ys H2:=fun hf {A env ρ s v zs k a D e depth iter ys0 R} C hd hi0 hi hz c t O OD hne rD hl hR =>
 cl_turn hb h1 C hd hi hz c t O OD hne rD fun s1 ρ1 S1 c1 t1 O1 OD1 rD1=>wpAny_pure ⟨rfl,h2 hf C hd hi0 (items_stands hi0 st) (drop_cons hz).2.1 (c1.to c1.inv (c1.vars.congr (bindT_ext hb hf))) t1 O1 OD1 hne rD1 hl fun s2 ρ2 S2 X2 O2 r2=>hR s2 ρ2 (S1.seqC c1.vars (O1.two OD1) S2) X2 O2 r2⟩
theorem cl_con(hb:bindT sc H target x loc=some loc1)(h1:GIf cx n sc loc1 ifs H true H1)(h2:GIn cx n sc em gens loc1 H1 ys H2)(st:stands H0 H2 src)(h3:GCl cx n sc em gens target ifs loc src H0 xs H2 zs H3):GCl cx n sc em gens target ifs loc src H0 (x::xs) H (ys++zs) H3:=fun hf {A env ρ s v vs k a D e depth iter ys0 R} C hd hi0 hi hz c t O OD hne rD hl hR=>by
 refine cl_turn hb h1 C hd hi hz c t O OD hne rD fun s1 ρ1 S1 c1 t1 O1 OD1 rD1 => ?_
 rw[List.length_append] at hl
 have hd':(clausesOf e).drop (depth+1)=gens:=by rw[← List.drop_drop,hd]; rfl
 refine h2 C hd' c1 OD1 rD1 (Nat.le_trans (Nat.add_le_add_left (Nat.le_add_right _ _) _) hl) fun s2 ρ2 S2 X2 OD2 r2=>wpAny_pure ⟨rfl,?_⟩
 have nD:¬ WC sc env [D] a:=fun w=>w.split.elim O1.nw fun w=>hne (List.mem_singleton.mp w)
 have zD:∀ b ob,s1.heap.get? b=some ob→Fz ob→¬ WC sc env [D] b:=fun b ob q hz w=>w.split.elim (c1.vars.nfW b ob q hz) fun w=>OD1.nf ob (List.mem_singleton.mp w▸q) hz
 have O2:=O1.step S2 nD
 refine h3 hf C hd hi0 (items_stands hi0 st) (drop_cons hz).2.1 (c1.to S2.inv (X2.congr (bindT_ext hb hf))) (t1.mono (S2.kp c1.inv zD) fun o e=>S2.ext a o e O1.ap nD) O2 OD2 hne r2 ?_ fun s3 ρ3 S3 X3 O3 r3=>hR s3 ρ3 ((S1.seqC c1.vars (O1.two OD1) S2.tlC).seqC X2 (O2.two OD2) S3) X3 O3 (List.append_assoc .. ▸ r3)
 rw[List.length_append,Nat.add_assoc]; exact hl
end
end
section
noncomputable def clOf(cells:List (Str×Addr)):List (Str×NameKind)→List (Str×Addr)→List (Str×Addr)
 | [],cs=>cs
 | (x,k)::r,cs=>if k == .free then clOf cells r ((x,(cells.lookup x).getD 0)::cs) else clOf cells r cs
theorem clOf_cons{cells cs:List (Str×Addr)}{p:Str×NameKind}{r:List (Str×NameKind)}:clOf cells (p::r) cs=if (p.2 == .free)=true then clOf cells r ((p.1,(cells.lookup p.1).getD 0)::cs) else clOf cells r cs:=rfl
theorem closure_go{env:Env}:∀ {names:List (Str×NameKind)} {cs:List (Str×Addr)},(∀ p∈names,p.2 = .free→∃ c,env.cells.lookup p.1=some c) →
  (forIn names cs fun (p:Str×NameKind) (cs:List (Str×Addr))=>(match p with | (name,kind)=>if kind == .free then (do let a ← cellOf env name; pure (ForInStep.yield ((name,a)::cs))) else pure (ForInStep.yield cs)):Sem (List (Str×Addr)))=pure (clOf env.cells names cs):=by
 intro names
 induction names with
 | nil=>exact fun ι=>rfl
 | cons p r ih =>
  intro cs h
  obtain ⟨x,k⟩:=p
  have ih:=fun cs=>ih (cs:=cs) fun p hp=>h p (List.mem_cons_of_mem _ hp)
  rw[List.forIn_cons,clOf_cons]
  by_cases hk:(k==NameKind.free)=true
  ·obtain ⟨c,hc⟩:=h (x,k) List.mem_cons_self (beq_iff_eq.mp hk)
   have e:cellOf env x=pure c:=by unfold cellOf; rw[hc]
   have e2:(env.cells.lookup x).getD 0=c:=by rw[hc]; rfl
   show ((if (k==NameKind.free)=true then _ else _) >>= _)=_
   rw[if_pos hk,if_pos hk,e2,e]
   exact ih ((x,c)::cs)
  ·show ((if (k==NameKind.free)=true then _ else _) >>= _)=_
   rw[if_neg hk,if_neg hk]
   exact ih cs
theorem closure_eq{scope:Scope}{env:Env}(h:∀ p∈scope.names,p.2 = .free→∃ c,env.cells.lookup p.1=some c):closureFor scope env=pure (clOf env.cells scope.names []):=by
 have e:=closure_go (cs:=[]) h
 unfold closureFor
 show (forIn scope.names [] _ >>= fun cs=>pure cs)=_
 rw[show (forIn scope.names [] _:Sem (List (Str×Addr)))=pure (clOf env.cells scope.names []) from e]
 rfl
theorem clOf_lookup{cells:List (Str×Addr)}{x:Str}{names:List (Str×NameKind)}:∀ {cs:List (Str×Addr)} {c:Addr},(∀ p∈names,p.2 = .free→∃ c,cells.lookup p.1=some c)→(∀ c,cs.lookup x=some c→cells.lookup x=some c)→(clOf cells names cs).lookup x=some c→cells.lookup x=some c:=by
 induction names with
 | nil=>exact fun ι h e=>h _ e
 | cons p r ih =>
  intro cs c hn h e
  have hn':=fun q hq=>hn q (List.mem_cons_of_mem _ hq)
  rw[clOf_cons] at e
  by_cases hk:(p.2 == .free)=true
  ·rw[if_pos hk] at e
   refine ih hn' (fun c' e' => ?_) e
   by_cases q:x=p.1
   ·obtain ⟨c0,h0⟩:=hn p List.mem_cons_self (beq_iff_eq.mp hk)
    rw[q,List.lookup_cons_self,h0] at e'
    rw[q,h0]; exact e'
   ·rw[lookup_ne (p:=(p.1,(cells.lookup p.1).getD 0)) (beq_false_of_ne q)] at e'; exact h c' e'
  ·rw[if_neg hk] at e
   exact ih hn' h e
theorem clOf_has{cells:List (Str×Addr)}{x:Str}{names:List (Str×NameKind)}:∀ {cs:List (Str×Addr)},((x,.free)∈names∨∃ c,cs.lookup x=some c)→∃ c,(clOf cells names cs).lookup x=some c:=by
 induction names with
 | nil=>exact fun h=>h.elim (fun q=>absurd q List.not_mem_nil) id
 | cons p r ih =>
  intro cs h
  rw[clOf_cons]
  by_cases hk:(p.2 == .free)=true
  ·rw[if_pos hk]
   refine ih ?_
   by_cases q:x=p.1
   ·rw[q,List.lookup_cons_self]; exact .inr ⟨_,rfl⟩
   ·rw[lookup_ne (p:=(p.1,(cells.lookup p.1).getD 0)) (beq_false_of_ne q)]
    exact h.imp (fun h=>(List.mem_cons.mp h).resolve_left fun e=>q (congrArg Prod.fst e)) id
  ·rw[if_neg hk]
   exact ih (h.imp (fun h=>(List.mem_cons.mp h).resolve_left fun e=>hk (by rw[← e]; rfl)) id)
theorem lookup_relabel{env:Env}{x:Str}:∀ {names:List (Str×NameKind)},
  (names.map fun (n,k)=>if (k==NameKind.free&&env.scope.kind == .function&&env.kindOf n==some .cell) then (n,NameKind.cell) else (n,k)).lookup x=(names.lookup x).map fun k=>if (k==NameKind.free&&env.scope.kind == .function&&env.kindOf x==some .cell) then NameKind.cell else k:=by
 intro names
 induction names with
 | nil=>rfl
 | cons p r ih =>
  obtain ⟨n,k⟩:=p
  rw[List.map_cons]
  by_cases hx:x=n
  ·subst hx
   rw[List.lookup_cons_self]
   by_cases hc:(k==NameKind.free&&env.scope.kind == .function&&env.kindOf x==some .cell)=true
   ·show (List.lookup x ((if _ then (x,NameKind.cell) else (x,k))::_))=some (if _ then _ else _)
    rw[if_pos hc,if_pos hc]; exact List.lookup_cons_self
   ·show (List.lookup x ((if _ then (x,NameKind.cell) else (x,k))::_))=some (if _ then _ else _)
    rw[if_neg hc,if_neg hc]; exact List.lookup_cons_self
  ·rw[lookup_ne (p:=(n,k)) (beq_false_of_ne hx),← ih]
   refine lookup_ne ?_
   by_cases hc:(k==NameKind.free&&env.scope.kind == .function&&env.kindOf n==some .cell)=true
   ·show (x==(if _ then (n,NameKind.cell) else (n,k)).1)=false
    rw[if_pos hc]; exact beq_false_of_ne hx
   ·show (x==(if _ then (n,NameKind.cell) else (n,k)).1)=false
    rw[if_neg hc]; exact beq_false_of_ne hx
theorem lookup_around{names:Sc}{loc:Loc}{x:Str}{v:V}(h:(around names loc).lookup x=some v):names.lookup x=some .free∧loc.lookup x=some v:=by
 unfold around at h
 induction loc with
 | nil=>exact noS h
 | cons p r ih =>
  rw[List.filter_cons] at h
  by_cases q:x=p.1
  ·by_cases hf:(names.lookup p.1==some .free)=true
   ·rw[if_pos hf] at h
    exact ⟨q▸beq_iff_eq.mp hf,by rw[q,List.lookup_cons_self] at h ⊢; exact h⟩
   ·rw[if_neg hf] at h
    exact absurd (beq_iff_eq.mpr (q▸(ih h).1)) hf
  ·rw[lookup_ne (beq_false_of_ne q)]
   by_cases hf:(names.lookup p.1==some .free)=true
   ·rw[if_pos hf,lookup_ne (beq_false_of_ne q)] at h; exact ih h
   ·rw[if_neg hf] at h; exact ih h
section
variable {pe:Pe} {cx:Cx} {n:Nat} {sc:Sc} {loc:Loc} {H H':Hp} {x:V}
theorem compOk_of{scope:Scope}(h:compOk pe sc scope=true):scope.kind = .function∧pe.lam scope.names=none∧(∀ p∈scope.names,p.2 = .cell→scope.names.lookup p.1=some .cell)∧(∀ p∈scope.names,p.2 = .free→sc.lookup p.1=some .cell∧scope.names.lookup p.1=some .free)∧(∀ p∈scope.names,p.2 = .local→scope.names.lookup p.1=some .local):=by
 unfold compOk at h
 rw[Bool.and_eq_true,Bool.and_eq_true] at h
 obtain ⟨⟨h1,h2⟩,h3⟩:=h
 rw[List.all_eq_true] at h3
 refine ⟨of_decide_eq_true h1,Option.isNone_iff_eq_none.mp h2,fun p hp q => ?_,fun p hp q => ?_,fun p hp q => ?_⟩
 ·have:=h3 p hp; rw[q] at this; exact beq_iff_eq.mp this
 ·have:=h3 p hp; rw[q] at this
  obtain ⟨h4,h5⟩:=Bool.and_eq_true_iff.mp this
  exact ⟨beq_iff_eq.mp h4,beq_iff_eq.mp h5⟩
 ·have:=h3 p hp; rw[q] at this; exact beq_iff_eq.mp this
theorem cf_app{names:List (Str×NameKind)}:∀ {k:Nat} {acc:List (Str×Addr)},cellsFrom k names acc=cellsFrom k names []++acc:=by
 induction names with
 | nil=>exact fun {k acc}=>rfl
 | cons p r ih =>
  intro k acc
  obtain ⟨n,kd⟩:=p
  show (if kd == .cell then cellsFrom (k+1) r ((n,k)::acc) else cellsFrom k r acc)=(if kd == .cell then cellsFrom (k+1) r [(n,k)] else cellsFrom k r [])++acc
  by_cases h:(kd==NameKind.cell)=true
  ·rw[if_pos h,if_pos h,ih (acc:=(n,k)::acc),ih (acc:=[(n,k)]),List.append_assoc]; rfl
  ·rw[if_neg h,if_neg h,ih]
theorem cf_kind{names:List (Str×NameKind)}:∀ {k:Nat} {y:Str} {c:Addr},(y,c)∈cellsFrom k names []→(y,.cell)∈names:=by
 induction names with
 | nil=>exact fun h=>nomatch h
 | cons p r ih =>
  intro k y c h
  obtain ⟨n,kd⟩:=p
  replace h:(y,c)∈(if kd == .cell then cellsFrom (k+1) r [(n,k)] else cellsFrom k r []):=h
  by_cases hk:(kd==NameKind.cell)=true
  ·rw[if_pos hk,cf_app] at h
   rcases List.mem_append.mp h with h | h
   ·exact .tail _ (ih h)
   ·cases List.mem_singleton.mp h
    rw[beq_iff_eq.mp hk]; exact .head _
  ·rw[if_neg hk] at h; exact .tail _ (ih h)
theorem nfe_comp{M:Model}{A:Around}{s:Shared}{E:Value→Shared→Prop}{scope:Scope}{globals:Addr}{cl:List (Str×Addr)}{qual:Str}{env:Env}{Q:Env→Shared→Prop}
  (h:Q { scope,locals:=s.heap.objs.size,globals,cells:=cellsFrom (s.heap.objs.size+1) scope.names cl,qual,func:=none,code:=env.code,frame:=env.frame,builtins:=env.builtins } { s with heap:=pushCells (s.heap.push { cls := .type "dict",data := .dict #[] }) scope.names }) :
  wpAny M A (newFunctionEnv scope globals cl [] qual none .none (some env)) Q E s:=by
 unfold newFunctionEnv
 refine wpAny_bind (wpAny_alloc ?_)
 refine wpAny_bind (wpAny_layCells _ (fun name kind cells=>by cases hkc:kind==NameKind.cell <;> simp [hkc]) _ _ _ _ ?_)
 dsimp only
 rw[List.forIn_nil]
 refine wpAny_bind (wpAny_pure (wpAny_pure ?_))
 have e:({ s with heap:=s.heap.push { cls := .type "dict",data := .dict #[] } }:Shared).heap.objs.size=s.heap.objs.size+1:=Heap.size_push ..
 rw[← e] at h
 exact h
theorem Stp.dropL{as:List Addr}{ρ ρ':Nat→Addr}{s s':Shared}(S:Stp cx (· ∈ as) ρ H s ρ' H' s')(ha:∀ a∈as,s.heap.get? a=none):Stp cx NoW ρ H s ρ' H' s' :=
 ⟨S.inv,S.le,S.agr,S.fresh,fun b o e hm ι=>S.ext b o e hm fun q=>(by rw[ha b q] at e; exact noS e),S.gx⟩
theorem comp_done{ρ ρ':Nat→Addr}{s s':Shared}{C:Addr}{m}{h':Heap}(S:Stp cx NoW ρ H s ρ' H' s')(hC:s.heap.get? C=none)(ap:∀ i,i<H'.n→ρ' i≠C)(hg:cx.g.get? C=none)(hn:s'.heap.Ns C m)(hs:Heap.SameBut C s'.heap h'):
  Stp cx NoW ρ H s ρ' H' { s' with heap:=h' }∧∀ {v y},Rep H'.n ρ' s'.heap v y→Rep H'.n ρ' h' v y:=by
 have T:Stp cx (· ∈ [C]) ρ' H' s' ρ' H' { s' with heap:=h' }:=Stp.but _ S.inv (by simp) ap hg (nf_ns hn) hs.extBut rfl rfl
 refine ⟨Stp.dropL (as:=[C]) ((S.weaken fun ι f=>f.elim).thenW T) (fun a ha=>by rw[List.mem_singleton.mp ha]; exact hC),fun q=>q.mono (T.kp S.inv fun b o e hz w => ?_)⟩
 rw[List.mem_singleton.mp w] at e
 exact nf_ns hn o e hz
structure AccOk (cx:Cx) (newAcc:Sem Value) (em:Em) (ob:Obj):Prop where
 new:∀ {A s} {Q:Value→Shared→Prop} {E},Q (.ref s.heap.objs.size) { s with heap:=s.heap.push ob }→wpAny cx.M A newAcc Q E s
 cls:ob.cls = .type "list"∨ob.cls = .type "dict"
 nil:∀ {n ρ h D},h.get? D=some ob→RepO cx.prog cx.w n ρ h D (objOf em [])
 live:ob.isFreed=false
theorem RepO.cls{p w n ρ h D}{em:Em}{ys:List V}(q:RepO p w n ρ h D (objOf em ys)):∀ ob,h.get? D=Option.some ob→ob.cls = .type "list"∨ob.cls = .type "dict":=fun ob e=>by
 cases em with
 | el =>
  obtain ⟨vs,k,e',_⟩:=q
  rw[e] at e'; cases e'; exact .inl rfl
 | kv =>
  obtain ⟨ps,⟨o',es,k,e',hc,_⟩,_⟩:=q
  rw[e] at e'; cases e'; exact .inr hc.1
theorem comp_top(P:PeOk pe cx){e:Expr}{em:Em}(C:CompT e em){A:Around}{env:Env}{s:Shared}{ρ:Nat→Addr}{E}{newAcc:Sem Value}{ob:Obj}{scope:Scope}{target iter:Expr}{ifs:List Expr}{gens:List Comprehension}{pos:Pos}
  {it:V} {xs:List V} {src:Option Nat} {H1 H2:Hp} {ys:List V} {use:Option (Value→Sem Unit)} {Q:Value→Shared→Prop}
  (C0:Cn cx (n+1) sc loc H A env ρ s) (hok:compOk pe sc scope=true) (hset:isSetE iter=false) (hcl:clausesOf e=⟨target,iter,ifs,0⟩::gens) (N:AccOk cx newAcc em ob)
  (h1:GE cx n sc loc iter H it H1) (h2:items H1 it=some (xs,src)) (hf:(tnames target).any (fun x=>((around scope.names loc).lookup x).isSome)=false) (h3:GCl cx n scope.names em gens target ifs (around scope.names loc) src H1 xs H1 ys H2) (hl:ys.length≤lim)
  (hQ:∀ s' ρ' D Cl m,Stp cx NoW ρ H s ρ' (H2.alloc (objOf em ys)) s'→Rep (H2.n+1) ρ' s'.heap (.ref D) (.ref H2.n)→s'.heap.Ns Cl m→(∀ i,i<H2.n+1→ρ' i≠Cl)→s.heap.get? Cl=none→cx.g.get? Cl=none→¬ Wr env Cl→compPost cx.M A E use Q (.ref D) Cl (.ok .next) s') :
  wpAny cx.M A (comprehension e scope env pos newAcc false (eval iter env) use) Q E s:=by
 obtain ⟨a1,a2,I,X⟩:=id C0
 obtain ⟨hk,hlam,hcc,hfree0,hloc⟩:=compOk_of hok
 have hfree:=fun p hp q=>(hfree0 p hp q).1
 have hcel:∀ p∈scope.names,p.2 = .free→env.kindOf p.1=some .cell∧∃ c,env.cells.lookup p.1=some c:=fun p hp q=>by
  have hk':env.kindOf p.1=some .cell:=a2.kind' (hfree p hp q) (by decide)
  exact ⟨hk',X.has _ hk'⟩
 refine wpAny_comprehension_free hcl (notSet_folded hset) (closure_eq fun p hp q=>(hcel p hp q).2) hk hloc ?_
 refine h1 C0.low fun u s1 ρ1 S1 r1 => ?_
 have X1:=X.step I S1
 refine it_start h2 S1.inv r1 fun a s2 ha S2 t2 => ?_
 refine N.new ?_
 refine nfe_comp ?_
 dsimp only
 obtain ⟨oa,_,_,ea,_,_,_,hza⟩:=t2.obj
 have hD2:s2.heap.get? s2.heap.objs.size=none:=get?_size _
 have hD1:s1.heap.get? s2.heap.objs.size=none:=by
  cases q:s1.heap.get? s2.heap.objs.size with
  | none=>rfl
  | some ob =>
   by_cases hm:∀ i,i<H1.n→ρ1 i≠s2.heap.objs.size
   ·rw[S2.ext _ _ q hm (fun x=>x)] at hD2; first | contradiction | cases hD2
   ·exfalso; refine hm fun i hi e => ?_
    obtain ⟨ob',e',_⟩:=(S2.inv.objs i hi).some
    rw[e,hD2] at e'; first | contradiction | cases e'
 generalize hh3:s2.heap.push ob=h3'
 have hD3:h3'.get? s2.heap.objs.size=some ob:=by rw[← hh3]; exact Heap.get?_push_size _ N.live
 have hsz3:h3'.objs.size=s2.heap.objs.size+1:=by rw[← hh3,Heap.size_push]
 obtain ⟨news,hnews⟩:∃ l,l=cellsFrom (h3'.objs.size+1) scope.names []:=⟨_,rfl⟩
 have cok:CellsOk (pushCells (h3'.push { cls := .type "dict",data := .dict #[] }) scope.names) (h3'.objs.size+1) news:=by
  have:=cellsFrom_ok scope.names (h3'.push { cls := .type "dict",data := .dict #[] }) (h3'.objs.size+1) [] ⟨fun ι ι hm=>(nomatch hm),List.Pairwise.nil⟩ (by rw[Heap.size_push]; exact Nat.le_refl _)
  rw[Heap.size_push,← hnews] at this; exact this
 have hns:(pushCells (h3'.push { cls := .type "dict",data := .dict #[] }) scope.names).Ns h3'.objs.size fun ι=>none:=(Heap.Ns.new h3' (.type "dict")).keeps (pushCells_keeps _ _)
 have up34:∀ b ob,h3'.get? b=some ob→(pushCells (h3'.push { cls := .type "dict",data := .dict #[] }) scope.names).get? b=some ob:=fun b ob e=>pushCells_keeps _ _ b ob (Heap.get?_push_of_some _ e)
 generalize pushCells (h3'.push { cls := .type "dict",data := .dict #[] }) scope.names=h' at cok hns up34 ⊢
 have hcf:cellsFrom (h3'.objs.size+1) scope.names (clOf env.cells scope.names [])=news++clOf env.cells scope.names []:=by rw[hnews]; exact cf_app
 rw[hcf]
 have nk:∀ y c,news.lookup y=some c→scope.names.lookup y=some .cell:=fun y c e=>by
  have hm:=mem_of_lookup e
  rw[hnews] at hm
  exact hcc _ (cf_kind hm) rfl
 have up24:∀ b ob,s2.heap.get? b=some ob→h'.get? b=some ob:=fun b ob e=>up34 b ob (by rw[← hh3]; exact Heap.get?_push_of_some _ e)
 have hC2:s2.heap.get? h3'.objs.size=none:=by
  cases q:s2.heap.get? h3'.objs.size with
  | none=>rfl
  | some ob=>exact absurd (Heap.lt_size q) (Nat.not_lt.mpr (by rw[hsz3]; exact Nat.le_succ _))
 have S24:Stp cx NoW ρ1 H1 s2 ρ1 H1 { s2 with heap:=h' }:=Stp.grown _ S2.inv up24 rfl rfl
 have S14:=S2.trans S24
 have fr1:∀ b,s2.heap.get? b=none→s1.heap.get? b=none∧∀ i,i<H1.n→ρ1 i≠b:=fun b hb=>by
  refine ⟨?_,(fresh_low S2.inv hb).2⟩
  cases q:s1.heap.get? b with
  | none=>rfl
  | some ob=>rw[S2.ext _ _ q (fresh_low S2.inv hb).2 (fun x=>x)] at hb; first | contradiction | cases hb
 have frs:∀ b,s1.heap.get? b=none→s.heap.get? b=none:=fun b hb=>by
  cases q:s.heap.get? b with
  | none=>rfl
  | some ob =>
   by_cases hm:∀ i,i<H.n→ρ i≠b
   ·rw[S1.ext _ _ q hm (fun x=>x)] at hb; first | contradiction | cases hb
   ·exfalso; refine hm fun i hi e => ?_
    have:=(fresh_low S1.inv hb).2 i (Nat.lt_of_lt_of_le hi S1.le)
    rw[S1.agr i hi] at this
    exact this e
 have hCa:h3'.objs.size≠a:=fun q=>by rw[q,ea] at hC2; first | contradiction | cases hC2
 have hDa:a≠s2.heap.objs.size:=fun q=>by rw[q,hD2] at ea; first | contradiction | cases ea
 have hCD:h3'.objs.size≠s2.heap.objs.size:=by rw[hsz3]; exact Nat.ne_of_gt (Nat.lt_succ_self _)
 show codeAny cx.M A (.compStart e 0 (.ref a) (.ref s2.heap.objs.size) (compEnvC scope (news++clOf env.cells scope.names []) h3'.objs.size env)) (compPost cx.M A E use Q (.ref s2.heap.objs.size) h3'.objs.size) _
 obtain ⟨cenv,hce⟩:∃ c,c=compEnvC scope (news++clOf env.cells scope.names []) h3'.objs.size env:=⟨_,rfl⟩
 rw[← hce]
 have eL:cenv.locals=h3'.objs.size:=by rw[hce]; rfl
 have eC:cenv.cells=news++clOf env.cells scope.names []:=by rw[hce]; rfl
 have eK:∀ y,cenv.kindOf y=(scope.names.lookup y).map fun k=>if (k==NameKind.free&&env.scope.kind == .function&&env.kindOf y==some .cell) then NameKind.cell else k:=fun y=>by
  rw[hce]; exact lookup_relabel
 have kfree:∀ y,scope.names.lookup y=some .free→cenv.kindOf y=some .cell∧env.kindOf y=some .cell:=fun y e=>by
  have h0:=hcel _ (mem_of_lookup e) rfl
  refine ⟨?_,h0.1⟩
  rw[eK,e,Option.map_some,h0.1,a2.kind]
  rfl
 have knot:∀ y k,k ≠ .free→scope.names.lookup y=some k→cenv.kindOf y=some k:=fun y k hne e=>by
  rw[eK,e,Option.map_some]
  have:(k==NameKind.free)=false:=by simpa using hne
  rw[this]; rfl
 have N2:EnvOk cx cenv scope.names:=by
  refine ⟨by rw[hce]; exact hk,fun y k e => ?_,by rw[hce]; exact a2.globals,by rw[hce]; exact a2.builtins,by rw[hce]; exact a2.code,fun c P' q e => ?_⟩
  ·by_cases hf:k = .free
   ·subst hf; exact .inr ⟨rfl,(kfree y e).1⟩
   ·exact .inl (knot y k hf e)
  ·rw[← P.lam,hlam] at e; first | contradiction | cases e
 have lk2:∀ y,cenv.cells.lookup y=(news.lookup y).or ((clOf env.cells scope.names []).lookup y):=fun y=>by rw[eC,List.lookup_append]
 have cl_in:∀ y c,cenv.cells.lookup y=some c→news.lookup y=some c∨env.cells.lookup y=some c:=fun y c e=>by
  rw[lk2] at e
  cases hn:news.lookup y with
  | some c'=>rw[hn] at e; exact .inl e
  | none =>
   rw[hn] at e
   exact .inr (clOf_lookup (fun p hp q=>(hcel p hp q).2) (fun ι q=>by simp at q) e)
 have cell_of:∀ y,cenv.kindOf y=some .cell→scope.names.lookup y=some .free∨scope.names.lookup y=some .cell:=fun y e=>by
  rw[eK] at e
  cases hl:scope.names.lookup y with
  | none=>rw[hl] at e; first | contradiction | cases e
  | some k =>
   by_cases hf:k = .free
   ·rw[hf]; exact .inl rfl
   ·have:=knot y k hf hl
    rw[eK,e] at this
    have hk':k = .cell:=by simpa using this.symm
    rw[hk']; exact .inr rfl
 have nfr:∀ y,scope.names.lookup y=some .free→news.lookup y=none:=fun y e=>by
  cases hn:news.lookup y with
  | none=>rfl
  | some c=>have:=nk y c hn; rw[e] at this; first | contradiction | cases this
 have nnew:∀ y c,news.lookup y=some c→h3'.objs.size<c∧s2.heap.get? c=none:=fun y c e=>by
  have h1:=(cok.empty y c (mem_of_lookup e)).2
  refine ⟨h1,?_⟩
  cases q:s2.heap.get? c with
  | none=>rfl
  | some ob=>exact absurd (Heap.lt_size q) (Nat.not_lt.mpr (by trivial))
 have up14:∀ b ob,s1.heap.get? b=some ob→(∀ i,i<H1.n→ρ1 i≠b)→h'.get? b=some ob:=fun b ob e hm=>S14.ext b ob e hm (fun x=>x)
 have aliveNe:∀ c ob,s1.heap.get? c=some ob→(∀ i,i<H1.n→ρ1 i≠c)→c≠h3'.objs.size∧c≠a∧c≠s2.heap.objs.size:=fun c ob e hm=>by
  refine ⟨fun q => ?_,fun q => ?_,fun q => ?_⟩
  ·rw[q,(fr1 _ hC2).1] at e; first | contradiction | cases e
  ·rw[q,ha] at e; first | contradiction | cases e
  ·rw[q,hD1] at e; first | contradiction | cases e
 have X4:Vars cx cenv H1.n ρ1 h' (around scope.names loc):=by
  refine ⟨⟨_,by rw[eL]; exact hns,fun y v e k => ?_⟩,fun y v e k => ?_,fun i hi => ?_,fun y c e=>(cl_in y c e).elim (fun e=>(fresh_low S2.inv (nnew y c e).2).2) (X1.apC y c),fun y c e => ?_,fun y e => ?_,fun y z c e1 e2 => ?_,?_⟩
  ·obtain ⟨e1,e2⟩:=lookup_around e
   rw[(kfree y e1).1] at k; first | contradiction | cases k
  ·obtain ⟨e1,e2⟩:=lookup_around e
   obtain ⟨c,u',h1,h2,h3⟩:=X1.cell y v e2 (.inl (kfree y e1).2)
   obtain ⟨c',hc'⟩:=clOf_has (cells:=env.cells) (x:=y) (names:=scope.names) (cs:=[]) (.inl (mem_of_lookup e1))
   have hc2:cenv.cells.lookup y=some c':=by rw[lk2,nfr y e1]; exact hc'
   have:c'=c:=by
    have:=(cl_in y c' hc2).resolve_left fun q=>by rw[nfr y e1] at q; first | contradiction | cases q
    rw[h1] at this; simpa using this.symm
   subst this
   exact ⟨c',u',hc2,isCell_at h2 fun o' e'=>up14 _ _ e' (X1.apC y c' h1),S14.rep S1.inv h3⟩
  ·rw[eL]; exact (fresh_low S2.inv hC2).2 i hi
  ·rcases cl_in y c e with e' | e'
   ·obtain ⟨h1,h2⟩:=nnew y c e'
    exact ⟨⟨none,(cok.empty y c (mem_of_lookup e')).1⟩,by rw[eL]; exact Nat.ne_of_gt h1,(fresh_low S2.inv h2).1⟩
   ·obtain ⟨⟨v,hv⟩,h1,h2⟩:=X1.cells y c e'
    obtain ⟨o',ho',_⟩:=id hv
    exact ⟨⟨v,isCell_at hv fun o'' q=>up14 _ _ q (X1.apC y c e')⟩,by rw[eL]; exact (aliveNe c o' ho' (X1.apC y c e')).1,h2⟩
  ·rcases cell_of y e with e' | e'
   ·obtain ⟨c,hc⟩:=clOf_has (cells:=env.cells) (x:=y) (names:=scope.names) (cs:=[]) (.inl (mem_of_lookup e'))
    exact ⟨c,by rw[lk2,nfr y e']; exact hc⟩
   ·obtain ⟨c,hc⟩:=lookup_of_mem (cellsFrom_mem (k:=h3'.objs.size+1) (acc:=[]) (.inl (mem_of_lookup e')))
    rw[← hnews] at hc
    exact ⟨c,by rw[lk2,hc]; rfl⟩
  ·have mix:∀ y z,news.lookup y=some c→env.cells.lookup z=some c→False:=fun y z e1 e2=>by
    obtain ⟨⟨v,o',ho',_⟩,_⟩:=X1.cells z c e2
    rw[(fr1 _ (nnew y c e1).2).1] at ho'; first | contradiction | cases ho'
   rcases cl_in y c e1 with e1 | e1 <;> rcases cl_in z c e2 with e2 | e2
   ·exact name_of_addr cok.apart (mem_of_lookup e1) (mem_of_lookup e2)
   ·exact (mix y z e1 e2).elim
   ·exact (mix z y e2 e1).elim
   ·exact X1.dist y z c e1 e2
  ·rw[eL]; exact (fresh_low S2.inv hC2).1
 have nWr:∀ b,s1.heap.get? b=none→b<h3'.objs.size→¬ Wr cenv b:=fun b hb hlt w=>by
  rcases w with w | ⟨y,w⟩
  ·exact Nat.ne_of_lt hlt (w.trans eL)
  ·rcases cl_in y b w with w | w
   ·exact Nat.lt_asymm hlt (nnew y b w).1
   ·obtain ⟨⟨v,o',ho',_⟩,_⟩:=X1.cells y b w
    rw[ho'] at hb; first | contradiction | cases hb
 have Oa:Out cx cenv H1.n ρ1 h' a:=⟨⟨oa,up24 _ _ ea,hza⟩,(fresh_low S1.inv ha).2,nWr a ha (by rw[hsz3]; exact Nat.lt_succ_of_lt (Heap.lt_size ea)),(fresh_low S1.inv ha).1⟩
 have hobz:¬ Fz ob:=fun hz=>by
  rcases N.cls with q | q <;> (have hc:=hz.1; rw[q] at hc; exact absurd hc (by decide+kernel))
 have OD:Out cx cenv H1.n ρ1 h' s2.heap.objs.size:=⟨⟨ob,up34 _ _ hD3,hobz⟩,(fr1 _ hD2).2,nWr _ hD1 (by rw[hsz3]; exact Nat.lt_succ_self _),(fresh_low S2.inv hD2).1⟩
 have rD:RepO cx.prog cx.w H1.n ρ1 h' s2.heap.objs.size (objOf em []):=N.nil (up34 _ _ hD3)
 have t4:ItAt H1.n ρ1 h' a 0 it:=t2.mono (S24.kp S2.inv fun ι ι ι ι x=>x) fun o' e'=>up24 _ _ e'
 have hcl0:(clausesOf e)[0]? = some ⟨target,iter,ifs,0⟩:=by rw[hcl]; rfl
 have goal:codeAny cx.M A (.compLoop e 0 (.ref a) (.ref s2.heap.objs.size) cenv) (compPost cx.M A E use Q (.ref s2.heap.objs.size) h3'.objs.size) { s2 with heap:=h' }:=by
  refine h3 hf C (iter:=iter) (by rw[hcl]; rfl) h2 h2 List.drop_zero ⟨C0.low.ar,N2,S24.inv,X4⟩ t4 Oa OD hDa rD (by rw[List.length_nil,Nat.zero_add]; exact hl) fun s5 ρ5 S5 X5 O5 r5 => ?_
  rw[List.nil_append] at r5
  have S5':Stp cx (· ∈ [h3'.objs.size,a,s2.heap.objs.size]++news.map (·.2)) ρ1 H1 { s2 with heap:=h' } ρ5 H2 s5:=S5.weaken fun b q=>q.elim (fun q=>List.mem_append_left _ (by rw[← eL]; exact q)) fun ⟨y,q,w⟩=>List.mem_append_right _ (by
   rw[lk2] at w
   cases hn:news.lookup y with
   | some c'=>rw[hn] at w; cases w; exact List.mem_map_of_mem (f:=(·.2)) (mem_of_lookup hn)
   | none =>
    obtain ⟨c,hc⟩:=lookup_of_mem (cellsFrom_mem (k:=h3'.objs.size+1) (acc:=[]) (.inl (mem_of_lookup q)))
    rw[← hnews,hn] at hc; first | contradiction | cases hc)
  have hnC:∃ oc,h'.get? h3'.objs.size=some oc:=by obtain ⟨oc,_,_,e,_⟩:=hns; exact ⟨oc,e⟩
  have S15:Stp cx NoW ρ1 H1 s1 ρ5 H2 s5:=by
   refine Stp.dropL (as:=[h3'.objs.size,a,s2.heap.objs.size]++news.map (·.2)) ((S14.weaken fun ι f=>f.elim).transW S5' fun i h1 h2 w => ?_) fun b hb => ?_
   ·have hf:=S5.fresh i h1 h2
    dsimp only at hf
    rcases List.mem_append.mp w with w | w
    ·simp only[List.mem_cons,List.not_mem_nil,or_false] at w
     rcases w with w | w | w
     ·obtain ⟨oc,e⟩:=hnC; rw[w,e] at hf; first | contradiction | cases hf
     ·rw[w,up24 _ _ ea] at hf; first | contradiction | cases hf
     ·rw[w,up34 _ _ hD3] at hf; first | contradiction | cases hf
    ·obtain ⟨⟨y,c⟩,hm,e⟩:=List.mem_map.mp w
     obtain ⟨o',ho',_⟩:=(cok.empty y c hm).1
     rw[← e,ho'] at hf; first | contradiction | cases hf
   ·rcases List.mem_append.mp hb with hb | hb
    ·simp only[List.mem_cons,List.not_mem_nil,or_false] at hb
     rcases hb with rfl | rfl | rfl
     ·exact (fr1 _ hC2).1
     ·exact ha
     ·exact hD1
    ·obtain ⟨⟨y,c⟩,hm,rfl⟩:=List.mem_map.mp hb
     refine (fr1 _ ?_).1
     have h1:=(cok.empty y c hm).2
     cases q:s2.heap.get? c with
     | none=>rfl
     | some ob=>exact absurd (Heap.lt_size q) (Nat.not_lt.mpr (by trivial))
  have S05:=S1.trans S15
  obtain ⟨m5,hn5,_⟩:=X5.ns
  rw[eL] at hn5
  have apC5:∀ i,i<H2.n→ρ5 i≠h3'.objs.size:=fun i hi=>by rw[← eL]; exact X5.apL i hi
  have K5:Kp H2.n ρ5 s5.heap (H2.n+1) (fun j=>if j=H2.n then s2.heap.objs.size else ρ5 j) s5.heap:=⟨Nat.le_succ _,fun i hi=>if_neg (Nat.ne_of_lt hi),fun ι ι e ι=>e⟩
  have S6:=S05.adopt (s3:=s5) (o:=objOf em ys) (frs _ hD1) S2.inv.neS O5.ap O5.low r5.cls (fun ι ι ι e=>e) (r5.mono K5 rfl) rfl rfl
  refine hQ s5 _ s2.heap.objs.size h3'.objs.size m5 S6 rep_new hn5 (fun i hi => ?_) (frs _ (fr1 _ hC2).1) (fresh_low S2.inv hC2).1 (fun w => ?_)
  ·show (if i=H2.n then s2.heap.objs.size else ρ5 i)≠_
   by_cases hi':i=H2.n
   ·rw[if_pos hi']; exact Ne.symm hCD
   ·rw[if_neg hi']; exact apC5 i (Nat.lt_of_le_of_ne (Nat.le_of_lt_succ hi) hi')
  ·rcases w with w | ⟨y,w⟩
   ·obtain ⟨m,⟨oL,_,_,hoL,_⟩,_⟩:=X1.ns
    rw[← w,(fr1 _ hC2).1] at hoL; first | contradiction | cases hoL
   ·obtain ⟨⟨v,o',ho',_⟩,_⟩:=X1.cells y _ w
    rw[(fr1 _ hC2).1] at ho'; first | contradiction | cases ho'
 refine comp_start C.toCompE hcl0 goal (it_self t4 goal)
end
end
section
theorem setL_new{kvs:List (Str×V)}{k:Str}{x:V}(h:kvs.any (fun p=>p.1=k)=false):setL kvs k x=kvs++[(k,x)]:=by
 induction kvs with
 | nil=>rfl
 | cons p r ih =>
  obtain ⟨y,u⟩:=p
  simp only[List.any_cons,Bool.or_eq_false_iff,decide_eq_false_iff_not] at h
  simp only[setL,if_neg h.1,List.cons_append,ih h.2]
theorem setL_old{kvs:List (Str×V)}{k:Str}{x:V}(hn:(kvs.map (·.1)).Nodup)(h:kvs.any (fun p=>p.1=k)=true):setL kvs k x=kvs.map fun p=>if p.1=k then (p.1,x) else p:=by
 induction kvs with
 | nil=>simp at h
 | cons p r ih =>
  obtain ⟨y,u⟩:=p
  simp only[List.map_cons,List.nodup_cons] at hn
  by_cases hy:y=k
  ·subst hy
   simp only[setL,if_true,List.map_cons,List.cons.injEq,true_and]
   refine (List.map_id r).symm.trans (List.map_congr_left fun p hp => ?_)
   have:p.1≠y:=fun q=>hn.1 (by rw[← q]; exact List.mem_map_of_mem hp)
   rw[if_neg this]; rfl
  ·simp only[List.any_cons,Bool.or_eq_true,decide_eq_true_eq] at h
   simp only[setL,if_neg hy,List.map_cons]
   rw[ih hn.2 (by rcases h with h | h; exact absurd h hy; exact h)]
theorem any_keys{ps:List (Str×Value)}{kvs:List (Str×V)}{k:Str}(hn:ps.map (·.1)=kvs.map (·.1)):ps.any (fun p=>p.1=k)=kvs.any (fun p=>p.1=k):=by
 have h1:ps.any (fun p=>p.1=k)=(ps.map (·.1)).any (fun y=>y=k):=by rw[List.any_map]; rfl
 have h2:kvs.any (fun p=>p.1=k)=(kvs.map (·.1)).any (fun y=>y=k):=by rw[List.any_map]; rfl
 rw[h1,h2,hn]
theorem stored_rep{n ρ h}{k:Str}{v:Value}{x:V}(q:Rep n ρ h v x):∀ {ps:List (Str×Value)} {kvs:List (Str×V)},(ps.map (·.1)).Nodup→ps.map (·.1)=kvs.map (·.1)→RepL n ρ h (ps.map (·.2)) (kvs.map (·.2)) →
  (stored ps k v).map (·.1)=(setL kvs k x).map (·.1)∧RepL n ρ h ((stored ps k v).map (·.2)) ((setL kvs k x).map (·.2)):=by
 intro ps kvs hd hn r
 unfold stored
 rw[any_keys hn]
 cases ha:kvs.any (fun p=>p.1=k) with
 | false =>
  rw[if_neg (by simp),setL_new ha]
  simp only[List.map_append,hn,List.map_cons,List.map_nil]
  exact ⟨trivial,r.snoc q⟩
 | true =>
  rw[if_pos rfl,setL_old (hn▸hd) ha]
  clear ha hd
  induction ps generalizing kvs with
  | nil =>
   cases kvs with
   | nil=>exact ⟨rfl,.nil⟩
   | cons b c=>simp at hn
  | cons p ps ih =>
   cases kvs with
   | nil=>simp at hn
   | cons b c =>
    simp only[List.map_cons,List.cons.injEq] at hn
    cases r with
    | cons r1 r2 =>
     obtain ⟨h1,h2⟩:=ih hn.2 r2
     obtain ⟨p1,p2⟩:=p
     obtain ⟨b1,b2⟩:=b
     simp only at hn
     obtain ⟨rfl,hn⟩:=hn
     simp only[List.map_cons]
     by_cases hk:p1=k
     ·simp only[if_pos hk]
      exact ⟨by simp only[List.cons.injEq,true_and]; exact h1,.cons q h2⟩
     ·simp only[if_neg hk]
      exact ⟨by simp only[List.cons.injEq,true_and]; exact h1,.cons r1 h2⟩
theorem dict_nodup{p:Program}{w:World}{h:Heap}{a:Addr}{ps:List (Str×Value)}(x:h.DictOf (PySem.strKind p w) a ps):(ps.map (·.1)).Nodup:=by
 obtain ⟨o,es,ep,ho,hc,hd,hk,hp,hn⟩:=x
 exact hn
section
variable {pe:Pe} {cx:Cx} {n:Nat} {sc:Sc} {loc:Loc} {H H':Hp} {x:V}
theorem dictL_snoc(ys:List V)(k:Str)(v:V):dictL (ys++[.tup [.str k,v]])=setL (dictL ys) k v:=List.foldl_append ..
theorem foldl_len(ys:List V):∀ (d:List (Str×V)),(ys.foldl (fun d p=>setL d (kvOf p).1 (kvOf p).2) d).length≤d.length+ys.length:=by
 induction ys with
 | nil=>intro d; exact Nat.le_refl _
 | cons p r ih =>
  intro d
  have:=ih (setL d (kvOf p).1 (kvOf p).2)
  have h2:=(length_setL d (kvOf p).1 (kvOf p).2).2.1
  rw[List.foldl_cons,List.length_cons]; trivial
theorem dictL_len(ys:List V):(dictL ys).length≤ys.length:=Nat.zero_add ys.length▸foldl_len ys []
theorem nf_list{h:Heap}{a:Addr}{o:Obj}(e:h.get? a=some o)(hc:o.cls = .type "list"∨o.cls = .type "dict"):¬ Fz o:=fun hz=>by
 rcases hc with q | q <;> (have h:=hz.1; rw[q] at h; exact absurd h (by decide+kernel))
theorem nxt_none{e:Expr}{depth:Nat}(h:(clausesOf e).drop (depth+1)=[]):(clausesOf e)[depth+1]? = none:=drop_nil h
variable {H1 H2:Hp} {v:V}
theorem in_lst{elt:Expr}(h1:GE cx n sc loc elt H v H1):GIn cx n sc (.el elt) [] loc H [v] H1:=fun {A env ρ s D e depth ys0 Q E kk} C hd c O rD hl hQ=>by
 rw[nxt_none hd]
 refine wpAny_bind (m:=emitL elt (.ref D) env) ?_
 unfold emitL
 refine wpAny_bind (h1 c fun u s1 ρ1 S1 r1 => ?_)
 have O1:=O.step S1 id
 obtain ⟨vs,k,ho,q⟩:=RepO.stepW c.inv S1 (fun ι ι ι ι x=>x) id O.ap rD
 refine wpAny_bind (wpAny_list_append_plain ⟨k,ho⟩ (fun h' hp hs=>wpAny_pure ?_) (by rw[size_of q,← lim_eq]; exact Nat.le_trans (Nat.le_add_right _ _) hl))
 obtain ⟨k',ho'⟩:=hp
 have S2:Stp cx (· = D) ρ1 H1 s1 ρ1 H1 { s1 with heap:=h' }:=Stp.but _ S1.inv rfl O1.ap O1.low O1.nf hs.extBut rfl rfl
 have K2:=S2.kp S1.inv fun b o e hz w=>O1.nf o (w▸e) hz
 have X1:=c.vars.step c.inv S1
 refine hQ _ ρ1 ((S1.weaken fun ι f=>f.elim).thenW S2.oneC) (X1.stepW S1.inv S2 (fun b w e=>O1.nw (e▸w)) (not_fz O1)) ⟨⟨_,ho',nf_list ho' (.inl rfl)⟩,O1.ap,O1.nw,O1.low⟩ ⟨_,_,ho',?_⟩
 rw[Array.toList_push]
 exact (q.mono K2).snoc (r1.mono K2)
theorem in_dct{k x:Expr}{ks:Str}(h1:GE cx n sc loc k H (.str ks) H1)(h2:GE cx n sc loc x H1 v H2):GIn cx n sc (.kv k x) [] loc H [.tup [.str ks,v]] H2:=fun {A env ρ s D e depth ys0 Q E kk} C hd c O rD hl hQ=>by
 rw[nxt_none hd]
 refine wpAny_bind (m:=emitD k x (.ref D) env) ?_
 unfold emitD
 refine wpAny_bind (h1 c fun u s1 ρ1 S1 r1 => ?_)
 obtain ⟨tk,rfl⟩:=r1.inv_str
 refine wpAny_bind (wpAny_holding (h2 (c.step S1) fun u2 s2 ρ2 S2 r2 => ?_))
 have S12:=S1.trans S2
 have O2:=O.step S12 id
 obtain ⟨ps,hd,hn,q⟩:=RepO.stepW c.inv S12 (fun ι ι ι ι x=>x) id O.ap rD
 have hz:ps.length≤sizeLine:=by
  rw[map_len hn,← lim_eq]
  exact Nat.le_trans (dictL_len ys0) (Nat.le_trans (Nat.le_add_right _ _) hl)
 refine wpAny_bind (wpAny_standAt (wpAny_holding (wpAny_dictSet_pairs (k:=ks) (is_str ks tk) hd (fun h' hd' hs => ?_) hz)))
 have S3:Stp cx (· = D) ρ2 H2 s2 ρ2 H2 { s2 with heap:=h',toks:=s2.toks+1 }:=Stp.but _ S2.inv rfl O2.ap O2.low O2.nf hs.extBut rfl rfl
 have K3:=S3.kp S2.inv fun b o e hz w=>O2.nf o (w▸e) hz
 obtain ⟨g1,g2⟩:=stored_rep (k:=ks) (r2.mono K3) (dict_nodup hd) hn (q.mono K3)
 obtain ⟨od,_,_,hod,hex,_⟩:=id hd'
 have X2:=c.vars.step c.inv S12
 refine hQ _ ρ2 ((S12.weaken fun ι f=>f.elim).thenW S3.oneC) (X2.stepW S2.inv S3 (fun b w e=>O2.nw (e▸w)) (not_fz O2)) ⟨⟨od,hod,nf_list hod (.inr hex.1)⟩,O2.ap,O2.nw,O2.low⟩ ?_
 show RepO _ _ _ _ _ _ (.dict (dictL (ys0++[.tup [.str ks,v]])))
 rw[dictL_snoc]
 exact ⟨_,hd',g1,g2⟩
theorem acc_list{elt:Expr}:AccOk cx (newList []) (.el elt) { cls := .type "list",data := .seq #[] } where
 new:=fun h=>wpAny_newObj_type h
 cls := .inl rfl
 nil:=fun e=>⟨_,_,e,.nil⟩
 live:=rfl
theorem acc_dict{k v:Expr}:AccOk cx newDict (.kv k v) { cls := .type "dict",data := .dict #[] } where
 new:=fun h=>wpAny_newObj_type h
 cls := .inr rfl
 nil:=fun e=>⟨[],⟨_,#[],0,e,⟨rfl,rfl,rfl⟩,rfl,fun e he=>(by simp at he),.nil,.nil⟩,rfl,.nil⟩
 live:=rfl
variable {elt target iter k y:Expr} {ifs:List Expr} {gens:List Comprehension} {scope:Scope} {pos:Pos} {it:V} {xs ys:List V} {src:Option Nat}
theorem c_LC(P:PeOk pe cx)(hok:compOk pe sc scope=true)(hset:isSetE iter=false)(h1:GE cx n sc loc iter H it H1)(h2:items H1 it=some (xs,src))(hf:(tnames target).any (fun x=>((around scope.names loc).lookup x).isSome)=false)(h3:GCl cx n scope.names (.el elt) gens target ifs (around scope.names loc) src H1 xs H1 ys H2)(hl:ys.length≤lim)(e:H2.alloc (.list ys)=H'):
  GE cx (n+1) sc loc (.ListComp elt (⟨target,iter,ifs,0⟩::gens) scope pos) H (.ref H2.n) H'∧GC cx (n+1) sc loc (.ListComp elt (⟨target,iter,ifs,0⟩::gens) scope pos) H (.ref H2.n) H':=by
 subst e
 constructor
 ·intro A env ρ s Q E C hQ
  rw[eval_ListComp]
  refine comp_top (use:=none) P (compT_L _ _ _ _) C hok hset rfl acc_list h1 h2 hf h3 hl fun s' ρ' D Cl m S q hn ap hC hg _ => ?_
  exact ⟨m,hn,fun h' hs=>let z:=comp_done S hC ap hg hn hs; hQ _ _ _ z.1 (z.2 q)⟩
 ·intro A env ρ s u Q E C hQ
  show wpAny cx.M A (do let _ ← comprehension (.ListComp elt (⟨target,iter,ifs,0⟩::gens) scope pos) scope env _ (newList []) false (eval iter env) (some u)) Q E s
  refine wpAny_bind (comp_top (use:=some u) P (compT_L _ _ _ _) C hok hset rfl acc_list h1 h2 hf h3 hl fun s' ρ' D Cl m S q hn ap hC hg nw => ?_)
  refine wpAny_mono (hQ _ _ _ Cl m S q hn ap hC hg nw) (fun ι s'' z => ?_) fun ι ι z=>z
  obtain ⟨m',h1,h2⟩:=z
  exact ⟨m',h1,fun h' hs=>wpAny_pure (h2 h' hs)⟩
theorem c_DC(P:PeOk pe cx)(hok:compOk pe sc scope=true)(hset:isSetE iter=false)(h1:GE cx n sc loc iter H it H1)(h2:items H1 it=some (xs,src))(hf:(tnames target).any (fun x=>((around scope.names loc).lookup x).isSome)=false)(h3:GCl cx n scope.names (.kv k y) gens target ifs (around scope.names loc) src H1 xs H1 ys H2)(hl:ys.length≤lim)(e:H2.alloc (.dict (dictL ys))=H'):
  GE cx (n+1) sc loc (.DictComp k y (⟨target,iter,ifs,0⟩::gens) scope pos) H (.ref H2.n) H'∧GC cx (n+1) sc loc (.DictComp k y (⟨target,iter,ifs,0⟩::gens) scope pos) H (.ref H2.n) H':=by
 subst e
 constructor
 ·intro A env ρ s Q E C hQ
  rw[arm_eval_DictComp]
  refine comp_top (use:=none) P (compT_D _ _ _ _ _) C hok hset rfl acc_dict h1 h2 hf h3 hl fun s' ρ' D Cl m S q hn ap hC hg _ => ?_
  exact ⟨m,hn,fun h' hs=>let z:=comp_done S hC ap hg hn hs; hQ _ _ _ z.1 (z.2 q)⟩
 ·intro A env ρ s u Q E C hQ
  show wpAny cx.M A (do let _ ← comprehension (.DictComp k y (⟨target,iter,ifs,0⟩::gens) scope pos) scope env _ newDict false (eval iter env) (some u)) Q E s
  refine wpAny_bind (comp_top (use:=some u) P (compT_D _ _ _ _ _) C hok hset rfl acc_dict h1 h2 hf h3 hl fun s' ρ' D Cl m S q hn ap hC hg nw => ?_)
  refine wpAny_mono (hQ _ _ _ Cl m S q hn ap hC hg nw) (fun ι s'' z => ?_) fun ι ι z=>z
  obtain ⟨m',h1,h2⟩:=z
  exact ⟨m',h1,fun h' hs=>wpAny_pure (h2 h' hs)⟩
end
end
section
section
variable {pe:Pe} {cx:Cx} {n:Nat} {sc:Sc} {loc:Loc} {H H':Hp} {x:V}
noncomputable def GJ(cx:Cx)(n:Nat)(sc:Sc)(loc:Loc)(es:List Expr)(out:Str)(H:Hp)(t:Str)(H':Hp):Prop :=
 (out.length≤lim→t.length≤lim)∧∀ {A env ρ s} {Q:Str→Shared→Prop} {E},Cn cx n sc loc H A env ρ s→(∀ s' ρ',Stp cx NoW ρ H s ρ' H' s'→Q t s')→Joins cx.M A E (evalEach es env) out Q s
variable {H1 H2:Hp} {a b:Expr} {es:List Expr} {out y t:Str} {pos:Pos}
theorem e_Fmt(h1:GE cx n sc loc a H (.str y) H1)(hl:y.length≤lim):GE cx (n+1) sc loc (.FormattedValue a (-1) none pos) H (.str y) H1:=fun C hQ=>by
 refine wpAny_FormattedValue_plain (h1 C.low fun w s1 ρ1 S1 r1 => ?_)
 obtain ⟨tk,rfl⟩:=r1.inv_str
 exact wpAny_formatField_str (hQ _ _ _ S1 r1) (hQ _ _ _ (S1.trans (Stp.toks _ S1.inv)) (.str _ _)) (lim_eq▸hl)
theorem j_nil:GJ cx n sc loc [] out H out H:=⟨id,fun C hQ=>hQ _ _ (Stp.refl _ C.inv)⟩
theorem j_cons(h1:GE cx n sc loc a H (.str y) H1)(hl:out.length+y.length≤lim)(h2:GJ cx n sc loc es (out++y) H1 t H2):GJ cx n sc loc (a::es) out H t H2:=by
 refine ⟨fun ι=>h2.1 (strLen_append .. ▸ hl),fun {A env ρ s Q E} C hQ => ?_⟩
 show wpAny cx.M A (eval a env) _ E s
 refine h1 C fun u s1 ρ1 S1 r1 => ?_
 obtain ⟨tk,rfl⟩:=r1.inv_str
 exact ⟨_,_,rfl,by rw[strLen_append,← lim_eq]; exact hl,h2.2 (C.step S1) fun s2 ρ2 S2=>hQ s2 ρ2 (S1.trans S2)⟩
theorem e_Joined(h:GJ cx n sc loc (a::b::es) Str.empty H t H1):GE cx (n+1) sc loc (.JoinedStr (a::b::es) pos) H (.str t) H1:=fun C hQ =>
 wpAny_JoinedStr (h.2 C.low fun s1 ρ1 S1=>⟨lim_eq▸h.1 (Nat.zero_le _),hQ _ _ _ (S1.trans (Stp.toks _ S1.inv)) (.str _ _)⟩)
theorem sub_go{A:Around}{E}{s:Shared}{value slice:Expr}{o i:Value}{T id:String}{Q:Value→Shared→Prop}(hT:s.TypeIs o T)(hl:typeLookup (.type T) "__getitem__"=pure (some (.builtin id)))
  (h:wpAny cx.M A (getItem o i) Q E s):wpAny cx.M A (getitemInPython o >>= fun b=>subscripted slice b o i >>= fun r=>letTemporaryGo value o r >>= fun ι=>pure r) Q E s:=by
 rw[getitemInPython_of_ne hT.not_modules]
 refine wpAny_bind (wpAny_bind (wpAny_specialOf hT hl (wpAny_pure ?_)))
 have fin:∀ vs,wpAny cx.M A (operate vs (getItem o i)) (fun r s₃=>wpAny cx.M A (letTemporaryGo value o r >>= fun ι=>pure r) Q E s₃) E s:=fun vs =>
  wpAny_operating (wpAny_mono h (fun r s₃ h₃=>wpAny_bind (wpAny_letTemporaryGo (wpAny_pure h₃))) fun ι ι x=>x)
 refine wpAny_bind ?_
 cases slice with
 | Slice a b c d=>cases c <;> exact fin _
 | _=>exact fin _
theorem atIdx_spec{xs:List V}{k:Int}{y:V}(h:atIdx xs k=some y): -1000000<k∧k<1000000∧∃ j,seqIndex? k xs.length=some j∧xs[j]? = some y∧((0≤k∧j=k.toNat)∨(k<0 ∧ -(xs.length:Int)≤k∧j=(k+xs.length).toNat)):=by
 unfold atIdx at h
 split at h
 ·first | contradiction | cases h
 ·rename_i hk
  simp only[Decidable.not_not] at hk
  split at h
  ·rename_i h0
   have hlt:k.toNat<xs.length:=(List.getElem?_eq_some_iff.mp h).1
   refine ⟨hk.1,hk.2,k.toNat,?_,h,.inl ⟨h0,rfl⟩⟩
   unfold seqIndex?
   have:¬ k<0:=by trivial
   simp only[if_neg this]
   rw[if_pos (by simp only[Bool.and_eq_true,decide_eq_true_eq]; trivial)]
  ·rename_i h0
   split at h
   ·rename_i h1
    have hlt:(↑xs.length+k).toNat<xs.length:=(List.getElem?_eq_some_iff.mp h).1
    refine ⟨hk.1,hk.2,(k+xs.length).toNat,?_,by rw[Int.add_comm]; exact h,.inr ⟨by trivial,by trivial,rfl⟩⟩
    unfold seqIndex?
    have:k<0:=by trivial
    simp only[if_pos this]
    rw[if_pos (by simp only[Bool.and_eq_true,decide_eq_true_eq]; trivial)]
   ·first | contradiction | cases h
theorem s_index(hg:HasSys cx){A:Around}{E}{s:Shared}{ρ:Nat→Addr}{o i y:V}{u w:Value}{value slice:Expr}{Q:Value→Shared→Prop}(h:index H o i=some y)(I:Inv cx ρ H s)(ro:Rep H.n ρ s.heap u o)(ri:Rep H.n ρ s.heap w i)
  (hQ:∀ v s',Stp cx NoW ρ H s ρ H s'→Rep H.n ρ s'.heap v y→Q v s'):wpAny cx.M A (getitemInPython u >>= fun b=>subscripted slice b u w >>= fun r=>letTemporaryGo value u r >>= fun ι=>pure r) Q E s:=by
 cases o with
 | ref j =>
  obtain ⟨hi,rfl⟩:=ro.inv_ref
  have h:idxO (H.f j) i=some y:=h
  generalize hf:H.f j=o at h
  cases o with
  | list xs =>
   cases i with
   | int k =>
    obtain ⟨t,rfl⟩:=ri.inv_int
    obtain ⟨vs,kk,e,q⟩:=I.list hi hf
    obtain ⟨h1,h2,j,_,hj,hc⟩:=atIdx_spec h
    obtain ⟨v,hv,rv⟩:=q.get j hj
    have hz:=size_of q
    refine sub_go (T:="list") ⟨_,e,rfl⟩ list_getitem_lookup ?_
    rcases hc with ⟨h0,rfl⟩ | ⟨h0,hle,rfl⟩
    ·exact wpAny_getItem_list (isList_of e) h0 (Int.lt_trans h2 (by decide)) (Array.getElem?_toList▸hv) (hQ _ _ (Stp.refl _ I) rv)
    ·exact wpAny_getItem_list_neg (isList_of e) h0 (by rw[hz]; exact hle) (Int.le_trans (by decide) (Int.le_of_lt h1)) (by rw[hz]; exact Array.getElem?_toList▸hv) (hQ _ _ (Stp.refl _ I) rv)
   | _=>first | exact noS h | exact noB h | cases h
  | dict kvs =>
   cases i with
   | str k =>
    obtain ⟨t,rfl⟩:=ri.inv_str
    obtain ⟨ps,hd,hn,q⟩:=I.dict hi hf
    obtain ⟨v,hv,rv⟩:=(lookup_rep hn q _).1 _ h
    exact sub_go (T:="dict") hd.typeIs F.slot_dict_getitem.lookup (wpAny_getItem_of (knd:=PySem.strKind cx.prog cx.w) (is_str _ t) hd.mapOf (by rw[valueAt_lookup]; exact hv) (hQ _ _ (Stp.toks _ I) rv))
   | _=>first | exact noS h | exact noB h | cases h
  | _=>first | exact noS h | exact noB h | cases h
 | tup xs =>
  cases i with
  | int k =>
   obtain ⟨a,vs,kk,rfl,e,q⟩:=ro.inv_tup
   obtain ⟨t,rfl⟩:=ri.inv_int
   obtain ⟨h1,h2,j,hs,hj,_⟩:=atIdx_spec h
   obtain ⟨v,hv,rv⟩:=q.get j hj
   exact sub_go (T:="tuple") ⟨_,e,rfl⟩ F.slot_tuple_getitem.lookup (P.getItem_tuple e (Int.le_trans (by decide) (Int.le_of_lt h1)) (Int.lt_trans h2 (by decide)) (by rw[size_of q]; exact hs) (Array.getElem?_toList▸hv) (hQ _ _ (Stp.refl _ I) rv))
  | _=>first | exact noS h | exact noB h | cases h
 | _=>first | exact noS h | exact noB h | cases h
theorem o_none:GO cx n sc loc none H none H:=fun C hQ=>wpAny_pure (hQ _ _ _ (Stp.refl _ C.inv) .none)
theorem o_some{k:Int}(h1:GE cx n sc loc a H (.int k) H1):GO cx n sc loc (some a) H (some k) H1:=fun {A env ρ s Q E} C hQ=>by
 show wpAny cx.M A (eval a env) Q E s
 refine h1 C fun u s1 ρ1 S1 r1 => ?_
 obtain ⟨t,rfl⟩:=r1.inv_int
 exact hQ _ _ _ S1 (.int _ _)
theorem isPart_tok{v:Value}{l:Option Int}(h:IsPart v l):∃ lt:Option (Int×Tok),lt.map (·.1)=l∧v=partValue lt:=by
 cases h with
 | none=>exact ⟨none,rfl,rfl⟩
 | int i t=>exact ⟨some (i,t),rfl,rfl⟩
theorem e_Idx(P:PeOk pe cx){o i:Expr}{u w:V}(h1:GE cx n sc loc o H u H1)(h2:GE cx n sc loc i H1 w H2)(h3:index H2 u w=some x):GE cx (n+1) sc loc (.Subscript o i pos) H x H2:=fun C hQ=>by
 rw[arm_eval_Subscript]
 exact wpAny_bind (h1 C.low fun ov s1 ρ1 S1 r1=>wpAny_bind (wpAny_holding (h2 (C.low.step S1) fun iv s2 ρ2 S2 r2=>wpAny_bind (wpAny_standAt (s_index P.sys h3 S2.inv (S2.rep S1.inv r1) r2 fun v s3 S3 r3=>hQ v s3 ρ2 ((S1.trans S2).trans S3) r3)))))
theorem slice_list{A:Around}{E}{s:Shared}{ρ:Nat→Addr}{o:Addr}{ws:Array Value}{xs:List V}{l hi st:Option Int}{vl vu vs:Value}{sl:Addr}{Q:Value→Shared→Prop}(I:Inv cx ρ H s)(hL:s.heap.IsList o ws)(hS:s.heap.IsSliceOf sl vl vu vs)(p2:IsPart vl l)(p3:IsPart vu hi)(p4:IsPart vs st)(hc:st≠some 0)(hz:xs.length≤lim)
  (q:RepL H.n ρ s.heap ws.toList xs) (hQ:∀ v s' ρ',Stp cx NoW ρ H s ρ' (H.alloc (.list (cutV xs l hi st))) s'→Rep (H.n+1) ρ' s'.heap v (.ref H.n)→Q v s'):wpAny cx.M A (getItem (.ref o) (.ref sl)) Q E s:=by
 refine wpAny_getItem_list_slice hL hS p2 p3 p4 hc (hQ _ _ (fun j=>if j=H.n then s.heap.objs.size else ρ j) (Stp.newList I ?_) rep_new) (by rw[size_of q,← lim_eq]; exact hz)
 have e1:(slicePick ws l hi st).toList=(sliceRange (sliceBounds l hi st xs.length).1 (sliceBounds l hi st xs.length).2.1 (sliceBounds l hi st xs.length).2.2).filterMap (ws.toList[·]?):=by
  unfold slicePick; rw[size_of q]; simp
 rw[e1]
 exact q.pick _
structure Slc (pe:Pe) (H:Hp) (u:V) (l hi st:Option Int) (x:V) (H':Hp):Prop where
 go:∀ {cx:Cx} {A:Around} {E:Value→Shared→Prop} {s:Shared} {ρ:Nat→Addr} {o vl vu vs:Value} {sl:Addr} {value slice:Expr} {Q:Value→Shared→Prop},PeOk pe cx→Inv cx ρ H s→Rep H.n ρ s.heap o u→s.heap.IsSliceOf sl vl vu vs→IsPart vl l→IsPart vu hi→IsPart vs st→(∀ v s' ρ',Stp cx NoW ρ H s ρ' H' s'→Rep H'.n ρ' s'.heap v x→Q v s') →
  wpAny cx.M A (getitemInPython o >>= fun b=>subscripted slice b o (.ref sl) >>= fun r=>letTemporaryGo value o r >>= fun ι=>pure r) Q E s
theorem Slc.list{pe:Pe}{H:Hp}{i:Nat}{xs:List V}{lo hi st:Option Int}{H':Hp}(hf:H.f i = .list xs)(hc:st≠some 0)(hl:xs.length≤lim)(e:H.alloc (.list (cutV xs lo hi st))=H'):Slc pe H (.ref i) lo hi st (.ref H.n) H':=⟨fun P I r4 hS p2 p3 p4 go=>by
 subst e; obtain ⟨hj,rfl⟩:=r4.inv_ref
 obtain ⟨ws,kk,e,q⟩:=I.list hj hf
 exact sub_go (T:="list") ⟨_,e,rfl⟩ list_getitem_lookup (slice_list I (isList_of e) hS p2 p3 p4 hc hl q go)⟩
theorem Slc.str{pe:Pe}{H:Hp}{s:Str}{lo hi:Option Int}(hl:s.length≤lim):Slc pe H (.str s) lo hi none (.str (Txt.slice s lo hi)) H:=⟨fun P I r4 hS p2 p3 p4 go=>by
 obtain ⟨t,rfl⟩:=r4.inv_str
 cases p4
 obtain ⟨lt,rfl,rfl⟩:=isPart_tok p2
 obtain ⟨ut,rfl,rfl⟩:=isPart_tok p3
 exact sub_go (T:="str") (typeIs_str _ _ _) F.slot_str_getitem.lookup (wpAny_getItem_str_slice (l:=lt) (u:=ut) (st:=none) hS rfl (post_val_or_str ⟨Nat.le_trans (Txt.slice_le _ _ _) (by rw[← lim_eq]; exact hl),fun t' k=>go _ _ _ (Stp.toks _ I) (.str _ _)⟩))⟩
theorem e_Slice(P:PeOk pe cx){o:Expr}{ps:Pos}{a b c:Option Expr}{l hi st:Option Int}{u:V}{H3 H4:Hp}(h1:GE cx n sc loc o H u H1)(h2:GO cx n sc loc a H1 l H2)(h3:GO cx n sc loc b H2 hi H3)(h4:GO cx n sc loc c H3 st H4)(h5:Slc pe H4 u l hi st x H'):GE cx (n+1) sc loc (.Subscript o (.Slice a b c ps) pos) H x H':=fun {A env ρ s Q E} C hQ=>by
 rw[arm_eval_Subscript]
 refine wpAny_bind (h1 C.low fun ov s1 ρ1 S1 r1=>wpAny_bind (wpAny_holding (wpAny_Slice ?_)))
 refine h2 (C.low.step S1) fun vl s2 ρ2 S2 p2=>h3 ((C.low.step S1).step S2) fun vu s3 ρ3 S3 p3=>h4 (((C.low.step S1).step S2).step S3) fun vs s4 ρ4 S4 p4=>wpAny_bind (wpAny_standAt ?_)
 have r4:=((S2.trans S3).trans S4).rep S1.inv r1
 have S5:Stp cx NoW ρ4 H4 s4 ρ4 H4 { s4 with heap:=s4.heap.push { cls := .type "slice",data := .fields #[vl,vu,vs] } }:=Stp.grown _ S4.inv (fun ι ι e=>Heap.get?_push_of_some _ e) rfl rfl
 have hS:(s4.heap.push { cls := .type "slice",data := .fields #[vl,vu,vs] }).IsSliceOf s4.heap.objs.size vl vu vs:=⟨_,Heap.get?_push_size _ rfl,rfl,rfl⟩
 exact h5.go P S5.inv (S5.rep S4.inv r4) hS p2 p3 p4 fun v s' ρ' S r=>hQ v s' ρ' (((((S1.trans S2).trans S3).trans S4).trans S5).trans S) r
end
end
section
section
variable {pe:Pe} {cx:Cx} {n:Nat} {sc:Sc} {loc loc1 loc':Loc} {H H' H1 H2 H3:Hp} {x u v w:V} {fl:Fl} {a o i:Expr} {pos p:Pos}
theorem Stp.toW{W:Addr→Prop}{ρ ρ':Nat→Addr}{s s':Shared}(S:Stp cx NoW ρ H s ρ' H' s'):Stp cx W ρ H s ρ' H' s':=S.weaken fun ι f=>f.elim
theorem Stp.seqW{env:Env}{ρ ρ1 ρ2:Nat→Addr}{s s1 s2:Shared}{H1 H2:Hp}{loc1:Loc}(S:Stp cx (Wr env) ρ H s ρ1 H1 s1)(X1:Vars cx env H1.n ρ1 s1.heap loc1)(T:Stp cx (Wr env) ρ1 H1 s1 ρ2 H2 s2):Stp cx (Wr env) ρ H s ρ2 H2 s2 :=
 S.transW T fun i h1 h2 w=>X1.notW T i h1 h2 w
theorem noSwap{e:Expr}{t:Option Expr}{line:Nat}{env:Env}(h:isCompE e=false):swapsWith e t line env=pure false:=by
 cases e <;> first | rfl | contradiction
theorem x_Expr(hc:isCompE a=false)(h1:GE cx n sc loc a H u H1):GX cx (n+1) sc (.Expr a pos) loc H .next loc H1:=fun C hQ=>by
 refine wpAny_Expr_any (h1 C.low fun u s1 ρ1 S1 r1=>hQ _ _ _ S1.toW (C.vars.step C.inv S1) .next) ?_ (noSwap hc)
 unfold interactive
 rw[C.en.kind]; rfl
theorem x_Ret(h1:GE cx n sc loc a H u H1):GX cx (n+1) sc (.Return (some a) pos) loc H (.ret u) loc H1:=fun C hQ=>wpAny_Return_some (h1 C.low fun u s1 ρ1 S1 r1=>hQ _ _ _ S1.toW (C.vars.step C.inv S1) (.ret r1))
theorem x_If{y z:List Stmt}{t:Bool}(h1:GT cx n sc loc a H t H1)(h2:GXs cx n sc (bif t then y else z) loc H1 fl loc' H2):GX cx (n+1) sc (.If a y z pos) loc H fl loc' H2:=fun {A env ρ s Q E} C hQ=>by
 refine wpAny_If (h1 C.low fun s1 ρ1 S1 => ?_)
 have g:=h2 (Q:=Q) (E:=E) (C.low.step S1) fun f s2 ρ2 S2 X2 r2=>hQ _ _ _ (Stp.seqW S1.toW (C.vars.step C.inv S1) S2) X2 r2
 cases t <;> exact g
theorem x_Try{body:List Stmt}{h0:ExceptHandler}{hs:List ExceptHandler}(h:GXs cx n sc body loc H fl loc' H1):GX cx (n+1) sc (.Try body (h0::hs) [] [] pos) loc H fl loc' H1:=fun C hQ=>by
 refine wpAny_Try_except (h C.low fun f s2 ρ2 S2 X2 r2 => ?_)
 have:=hQ _ _ _ S2 X2 r2
 cases r2 with
 | next=>exact wpAny_execs_nil this
 | _=>exact this
theorem x_Aug(P:PeOk pe cx){id:Str}{op:Operator}{old:V}(ho:own sc id=true)(h0:look pe sc loc id=some old)(ha:augOk old=true)(h1:GE cx n sc loc a H u H1)(h2:Bin H1 op old u v H2):GX cx (n+1) sc (.AugAssign (.Name id p) op a pos) loc H .next (setL loc id v) H2:=fun {A env ρ s Q E} C hQ=>by
 refine wpAny_AugAssign_Name (s_load P h0 C.en C.inv C.vars fun u r0=>h1 C.low fun u1 s1 ρ1 S1 r1=>h2.aug ha S1.inv (S1.rep C.inv r0) r1 fun u2 s2 S2 r2 => ?_)
 have X2:=C.vars.step C.inv (S1.trans S2)
 exact s_store (WrOk.wr sc env) ho C.en S2.inv X2 r2 fun s3 S3 ι X3=>hQ _ _ _ (Stp.seqW (S1.trans S2).toW X2 S3) X3 .next
theorem s_setAttr(P:PeOk pe cx){A:Around}{E}{s:Shared}{ρ:Nat→Addr}{name:Str}{v y:V}{d:Nat}{o u:Value}{Q:Unit→Shared→Prop}(h:instOf pe H name v=some d)(hp:putN H d name y (H.f d)=some H')(I:Inv cx ρ H s)(ro:Rep H.n ρ s.heap o v)(ry:Rep H.n ρ s.heap u y)
  (hQ:∀ s',Stp cx NoW ρ H s ρ H' s'→Q () s'):wpAny cx.M A (setAttr o name u) Q E s:=by
 cases v with
 | ref i =>
  obtain ⟨hi,rfl⟩:=ro.inv_ref
  have h:instO pe name (H.f i)=some d:=h
  generalize hf:H.f i=o at h
  cases o with
  | inst C e =>
   obtain ⟨m,hm,rfl⟩:=map_some h
   generalize hd:H.f e=o at hp
   cases o with
   | ns kvs =>
    obtain ⟨hl,rfl⟩:=ite_some hp
    exact s_setInst P hi hf hd hm hl I ry hQ
   | _=>first | exact noS hp | exact noB hp | cases hp
  | _=>first | exact noS h | exact noB h | cases h
 | _=>first | exact noS h | exact noB h | cases h
theorem s_setItem{A:Around}{E}{s:Shared}{ρ:Nat→Addr}{d:Nat}{k:Str}{t:Tok}{y:V}{u:Value}{Q:Unit→Shared→Prop}(hi:d<H.n)(hp:putD H d k y (H.f d)=some H')(I:Inv cx ρ H s)(ry:Rep H.n ρ s.heap u y)
  (hQ:∀ s',Stp cx NoW ρ H s ρ H' s'→Q () s'):wpAny cx.M A (setItem (.ref (ρ d)) (.str k t) u) Q E s:=by
 generalize hf:H.f d=o at hp
 cases o with
 | dict kvs =>
  obtain ⟨hl,rfl⟩:=ite_some hp
  obtain ⟨ps,hd,hn,q⟩:=I.dict hi hf
  refine wpAny_setItem_pairs (knd:=PySem.strKind cx.prog cx.w) (is_str k t) hd (fun h' hd' hs => ?_) (by rw[map_len hn,← lim_eq]; exact Nat.le_of_lt hl)
  have K:Kp H.n ρ s.heap H.n ρ h':=⟨Nat.le_refl _,fun ι ι=>rfl,fun a o e hc=>hs.extBut a o (fun q=>I.notMut e hc d hi q.symm) e⟩
  obtain ⟨g1,g2⟩:=stored_rep (k:=k) (ry.mono K) (dict_nodup hd) hn (q.mono K)
  exact hQ _ (Stp.put _ I hi hs ⟨_,hd',g1,g2⟩ rfl rfl)
 | _=>first | exact noS hp | exact noB hp | cases hp
theorem a_Bind{t:Expr}(h:bindT sc H t u loc=some loc'):GA cx n sc t u loc H loc' H:=fun {A env ρ s u Q E} C q hQ=>bindT_sound (WrOk.wr sc env) C.ar.handled C.en h C.inv C.vars q fun s1 S1 ι X1=>hQ _ _ S1 X1
theorem a_Attr(P:PeOk pe cx){name:Str}{d:Nat}(h1:GE cx n sc loc o H w H1)(h2:instOf pe H1 name w=some d)(h3:putN H1 d name u (H1.f d)=some H2):GA cx n sc (.Attribute o name p) u loc H loc H2:=fun C q hQ=>by
 rw[arm_assign_Attribute]
 refine wpAny_bind (wpAny_holding (h1 C fun o s1 ρ1 S1 r1=>wpAny_bind (wpAny_standAt (wpAny_bind (wpAny_holding (s_setAttr P h2 h3 S1.inv r1 (S1.rep C.inv q) fun s2 S2=>wpAny_release ?_))))))
 exact hQ _ _ (S1.trans S2).toW (C.vars.step C.inv (S1.trans S2))
theorem a_Sub{d:Nat}{k:Str}(h1:GE cx n sc loc o H (.ref d) H1)(h2:GE cx n sc loc i H1 (.str k) H2)(h3:putD H2 d k u (H2.f d)=some H3):GA cx n sc (.Subscript o i p) u loc H loc H3:=fun C q hQ=>by
 rw[arm_assign_Subscript]
 refine wpAny_bind (wpAny_holding (h1 C fun o s1 ρ1 S1 r1=>wpAny_bind (wpAny_holding (h2 (C.step S1) fun i s2 ρ2 S2 r2=>wpAny_bind (wpAny_standAt (wpAny_bind (wpAny_holding ?_)))))))
 obtain ⟨t,rfl⟩:=r2.inv_str
 obtain ⟨hd,rfl⟩:=(S2.rep S1.inv r1).inv_ref
 refine s_setItem hd h3 S2.inv ((S1.trans S2).rep C.inv q) fun s3 S3=>wpAny_release ?_
 exact hQ _ _ ((S1.trans S2).trans S3).toW (C.vars.step C.inv ((S1.trans S2).trans S3))
theorem assignEach_plain{t:Expr}{ts:List Expr}{env:Env}(h:isStar t=false):assignEach (t::ts) env=(false,assign t env)::assignEach ts env:=by
 cases t <;> first | rfl | contradiction
theorem as_one{t:Expr}(hs:isStar t=false)(h1:GA cx n sc t u loc H loc' H1):GAs cx n sc [t] u loc H loc' H1:=fun C q hQ=>by
 rw[assignEach_plain hs]; exact h1 C q hQ
end
end
section
section
variable {pe:Pe} {cx:Cx} {n:Nat} {sc:Sc} {loc loc':Loc} {H H' H1 H2:Hp} {x u:V} {a:Expr} {pos:Pos} {ts:List Expr}
theorem swap_sole{env:Env}{line:Nat}(h:isCompE a=false):swapsWithSole ts a line env=pure false:=by
 match ts with
 | []=>rfl
 | [t]=>exact noSwap h
 | _::_::_=>rfl
theorem x_Asg(hc:isCompE a=false)(hw:∀ env,swappedStores ts a env=pure none)(h1:GE cx n sc loc a H u H1)(h2:GAs cx n sc ts u loc H1 loc' H2):GX cx (n+1) sc (.Assign ts a pos) loc H .next loc' H2:=fun {A env ρ s Q E} C hQ=>by
 rw[exec_Assign_arm]
 refine wpAny_bind (wpAny_standAt (wpAny_bind (wpAny_of_eq (swap_sole hc) ?_)))
 rw[if_neg Bool.false_ne_true]
 refine wpAny_bind (h1 C.low fun u s1 ρ1 S1 r1=>wpAny_bind (wpAny_of_eq (hw env) ?_))
 show wpAny cx.M A (do assignAll u ((assignEach ts env).map (·.2)); pure .next) Q E s1
 exact wpAny_bind (h2 (C.low.step S1) r1 fun s2 ρ2 S2 X2=>wpAny_pure (hQ _ _ _ (Stp.seqW S1.toW (C.vars.step C.inv S1) S2) X2 .next))
theorem swap_dec{y:Str}{yp:Pos}{line:Nat}{env:Env}:∃ b,swapsWithSole [.Name y yp] a line env=pure b:=by
 cases a <;> exact ⟨_,rfl⟩
theorem x_AsgC{y:Str}{yp:Pos}(h1:GE cx n sc loc a H u H1∧GC cx n sc loc a H u H1)(h2:GAs cx n sc [.Name y yp] u loc H1 loc' H2):GX cx (n+1) sc (.Assign [.Name y yp] a pos) loc H .next loc' H2:=fun {A env ρ s Q E} C hQ=>by
 rw[exec_Assign_arm]
 obtain ⟨b,hb⟩:=swap_dec (a:=a) (y:=y) (yp:=yp) (line:=pos.line) (env:=env)
 refine wpAny_bind (wpAny_standAt (wpAny_bind (wpAny_of_eq hb ?_)))
 cases b with
 | true =>
  rw[if_pos rfl]
  refine wpAny_bind (h1.2 C.low fun v' s1 ρ1 Cl m S1 r1 hn ap hC hg nw => ?_)
  have X1:=C.vars.step C.inv S1
  refine h2 (C.low.step S1) r1 fun s2 ρ2 S2 X2 => ?_
  have hn2:s2.heap.Ns Cl m:=hn.at' fun o e=>S2.ext Cl o e ap nw
  obtain ⟨oc,_,_,hoc,_⟩:=id hn
  refine ⟨m,hn2,fun h' hs=>wpAny_pure ?_⟩
  have O2:Out cx env H2.n ρ2 s2.heap Cl:=⟨⟨oc,S2.ext Cl oc hoc ap nw,nf_ns hn oc hoc⟩,S2.old hoc ap,nw,hg⟩
  have T:Stp cx (· = Cl) ρ2 H2 s2 ρ2 H2 { s2 with heap:=h' }:=Stp.but _ S2.inv rfl O2.ap hg (nf_ns hn2) hs.extBut rfl rfl
  have S12:=Stp.seqW (S1.toW (W:=Wr env)) X1 S2
  have S13:Stp cx (fun b=>Wr env b∨b=Cl) ρ H s ρ2 H2 { s2 with heap:=h' }:=(S12.weaken fun b q => .inl q).thenW (T.weaken fun b q => .inr q)
  exact hQ _ _ _ (S13.dropA hC) (X2.same S2.inv T O2) .next
 | false =>
  rw[if_neg Bool.false_ne_true]
  refine wpAny_bind (h1.1 C.low fun u s1 ρ1 S1 r1=>wpAny_bind (wpAny_of_eq (a:=none) rfl ?_))
  show wpAny cx.M A (do assignAll u ((assignEach [.Name y yp] env).map (·.2)); pure .next) Q E s1
  exact wpAny_bind (h2 (C.low.step S1) r1 fun s2 ρ2 S2 X2=>wpAny_pure (hQ _ _ _ (Stp.seqW S1.toW (C.vars.step C.inv S1) S2) X2 .next))
open Builtin Builtin.List in
theorem del_all{A:Around}{E}{s:Shared}{l sl:Addr}{items:Array Value}{k:Nat}{Q:Unit→Shared→Prop}(ho:s.heap.get? l=some { cls := .type "list",data := .seq items k })(hs:s.heap.IsSliceOf sl .none .none .none)(hsz:items.size≤sizeLine)
  (hQ:∀ h' k',h'.get? l=some { cls := .type "list",data := .seq #[] k' }→Heap.SameBut l s.heap h'→Q () { s with heap:=h' }):wpAny cx.M A (delItem (.ref l) (.ref sl)) Q E s:=by
 obtain ⟨os,hos,hcs,hds⟩:=id hs
 have hTs:s.TypeIs (.ref sl) "slice":=⟨os,hos,hcs⟩
 refine wpAny_delItem_slot ⟨_,ho,rfl⟩ (by decide) F.slot_list_delitem ?_
 refine wpAny_call_entry F.slot_list_delitem ⟨_,ho,rfl⟩ F.entry_list_delitem ?_ (F.args_list_delitem_2 _ _)
 show wpAny _ _ (Builtin.List.listSubscript? (.ref sl) >>= _) _ _ s
 refine wpAny_bind ?_
 unfold Builtin.List.listSubscript?
 refine wpAny_bind (wpAny_specialOf hTs slice_no_index ?_)
 simp only[Option.isNone_none,if_true]
 refine wpAny_pure ?_
 show wpAny _ _ (typeOf (.ref sl) >>= _) _ _ s
 refine wpAny_bind (wpAny_typeOf hTs ?_)
 rw[if_neg (by decide)]
 rw[listSliceParts_eq]
 refine wpAny_bind (wpAny_bind (wpAny_field hos hds (x := .none) rfl (wpAny_bind (wpAny_listPart .none ?_))))
 rw[if_neg (by decide)]
 refine wpAny_bind (wpAny_field hos hds (x := .none) rfl (wpAny_bind (wpAny_listPart .none ?_)))
 refine wpAny_bind (wpAny_field hos hds (x := .none) rfl (wpAny_bind (wpAny_listPart .none (wpAny_pure ?_))))
 refine wpAny_bind (m:=Builtin.List.listItems (.ref l)) ?_
 unfold Builtin.List.listItems
 refine wpAny_bind (wpAny_seqItems ho rfl (wpAny_pure ?_))
 refine wpAny_bind (wpAny_of_eq (sliceIndices_raw none none none items.size (by simp)) ?_)
 refine wpAny_bind (wpAny_rule (wpAny_bind ?_))
 have key:∀ (sel:Nat→Bool),(∀ k,k<items.size→sel k=true)→(items.toList.zipIdx.filterMap fun x:Value×Nat=>if sel x.2=true then none else some x.1).toArray = #[]:=fun sel hsel=>by
  have:(items.toList.zipIdx.filterMap fun x:Value×Nat=>if sel x.2=true then none else some x.1)=[]:=by
   rw[List.filterMap_eq_nil_iff]
   intro p hp
   have:=List.snd_lt_of_mem_zipIdx hp
   rw[if_pos (hsel _ (by simpa using this))]
  rw[this]
 show wpAny _ _ (updateSeq l _) _ _ s
 refine wpAny_updateSeq ho rfl ?_ hsz ?_
 ·refine wpAny_bind (wpAny_letGo (wpAny_pure ⟨_,rfl,hQ _ (if (#[]:Array Value).size==items.size then k else k+1) ?_ (Heap.SameBut.update ..)⟩))
  refine (Heap.get?_update_self _ ho rfl).trans ?_
  refine congrArg (fun a:Array Value=>some ({ cls := .type "list",data := .seq a (if a.size==items.size then k else k+1) }:Obj)) ?_
  refine key _ fun k hk => ?_
  show (if (1:Int)>0 then decide ((0:Int)≤(k:Int))&&decide ((k:Int)<(items.size:Int))&&((k:Int)-0) % 1==0 else _)=true
  simp [Int.emod_one]
  trivial
 ·refine Nat.le_trans (Nat.le_of_eq ?_) (Nat.zero_le _)
  refine (congrArg Array.size (key _ fun k hk => ?_)).trans rfl
  show (if (1:Int)>0 then decide ((0:Int)≤(k:Int))&&decide ((k:Int)<(items.size:Int))&&((k:Int)-0) % 1==0 else _)=true
  simp [Int.emod_one]
  trivial
theorem x_Del{o:Expr}{p q:Pos}{i:Nat}{xs:List V}(h1:GE cx n sc loc o H (.ref i) H1)(hf:H1.f i = .list xs)(hl:xs.length≤lim)(e:H1.put i (.list [])=H2):GX cx (n+1) sc (.Delete [.Subscript o (.Slice none none none p) q] pos) loc H .next loc H2:=fun {A env ρ s Q E} C hQ=>by
 subst e
 refine wpAny_Delete (wpAny_deleteEach_cons ?_)
 rw[arm_delete_Subscript]
 refine wpAny_bind (h1 C.low fun u s1 ρ1 S1 r1=>wpAny_bind (wpAny_holding (wpAny_Slice ?_)))
 refine wpAny_pure (wpAny_pure (wpAny_pure (wpAny_bind (wpAny_standAt (wpAny_bind (wpAny_holding ?_))))))
 obtain ⟨hi,rfl⟩:=r1.inv_ref
 have S2:Stp cx NoW ρ1 H1 s1 ρ1 H1 { s1 with heap:=s1.heap.push { cls := .type "slice",data := .fields #[.none,.none,.none] } }:=Stp.grown _ S1.inv (fun ι ι e=>Heap.get?_push_of_some _ e) rfl rfl
 obtain ⟨vs,k,e,qq⟩:=S2.inv.list hi hf
 refine del_all e ⟨_,Heap.get?_push_size _ rfl,rfl,rfl⟩ (by rw[size_of qq,← lim_eq]; exact hl) fun h' k' e' hs=>wpAny_release (wpAny_deleteEach_nil ?_)
 have S3:=Stp.setList (xs:=[]) (vs := #[]) (k:=k') (s':={ s1 with heap:=h' }) S2.inv hi hs e' .nil rfl rfl
 exact hQ _ _ _ ((S1.trans S2).trans S3).toW (C.vars.step C.inv ((S1.trans S2).trans S3)) .next
end
end
section
structure GP where
 old:Addr→Prop
 env:Env
 i:Nat
 ai:Addr
 ids:List Nat
 pl:Nat→Addr
 lv:Nat→List V
noncomputable abbrev GP.C(G:GP):Addr:=G.env.locals
noncomputable abbrev IterO(o:Obj):Prop:=o.cls = .type "list_iterator"∨o.cls = .type "list_reverseiterator"
structure GOk (cx:Cx) (G:GP):Prop where
 low:∀ b o,cx.g.get? b=some o→G.old b
 new:¬ G.old G.C
 kind:G.env.scope.kind = .function
 cor:G.env.scope.isCoroutine=false
 rev:G.env.kindOf "_reversed"=some .local
 stk:G.env.kindOf "ns_stack"=some .local
 cur:G.env.kindOf "namespaces"=some .local
 small:∀ j∈G.ids,(G.lv j).length≤lim
structure LvA (cx:Cx) (G:GP) (ρ:Nat→Addr) (H:Hp) (t:Shared):Prop where
 inv:Inv cx ρ H t
 off:∀ k,k<H.n→ρ k≠G.C
 lt:G.i<H.n
 at_:ρ G.i=G.ai
 stack:H.f G.i = .list (G.ids.map .ref)
 lev:∀ j∈G.ids,j<H.n∧ρ j=G.pl j∧H.f j = .list (G.lv j)
 al:∀ b,G.old b→∃ o,t.heap.get? b=some o
structure Gu (G:GP) (s₀ s:Shared):Prop where
 os:s.os=s₀.os
 gens:s.gens=s₀.gens
 keep:∀ b o,s₀.heap.get? b=some o→b≠G.C→(G.old b∨¬ IterO o)→s.heap.get? b=some o
structure Sb (cx:Cx) (G:GP) (t t':Shared):Prop where
 ga:Ex2 fun ρ H=>LvA cx G ρ H t'
 keep:∀ b o,t.heap.get? b=some o→(b=G.C∨(IterO o∧¬ G.old b))→t'.heap.get? b=some o
section
variable {cx:Cx} {G:GP} {s₀ s t:Shared} {ρ:Nat→Addr} {H:Hp}
theorem Gu.refl(s:Shared):Gu G s s:=⟨rfl,rfl,fun ι ι e ι ι=>e⟩
theorem Gu.trans(a:Gu G s₀ s)(b:Gu G s t):Gu G s₀ t:=⟨b.os.trans a.os,b.gens.trans a.gens,fun c o e h1 h2=>b.keep c o (a.keep c o e h1 h2) h1 h2⟩
theorem iter_of{p w n h a}{o:AObj}(x:RepO p w n ρ h a o):∃ ob,h.get? a=some ob∧¬ IterO ob∧ob.cls ≠ .type "generator":=by
 cases o with
 | list xs=>obtain ⟨vs,k,e,_⟩:=x; exact ⟨_,e,by simp [IterO],by simp⟩
 | dict xs=>obtain ⟨ps,⟨o,es,k,e,hc,_⟩,_⟩:=x; exact ⟨_,e,by simp [IterO,hc.1],by simp [hc.1]⟩
 | ns xs=>obtain ⟨es,k,e,_⟩:=x; exact ⟨_,e,by simp [IterO],by simp⟩
 | set xs=>obtain ⟨⟨⟨o,es,k,t,e,hc,_⟩,_⟩,_⟩:=x; exact ⟨_,e,by simp [IterO,hc.1],by simp [hc.1]⟩
 | inst C d=>exact ⟨_,x.2,by simp [IterO],by simp⟩
 | tab P q=>obtain ⟨rfl,ps,e,_⟩:=x; exact ⟨_,e,by simp [IterO,tabObj],by simp [tabObj]⟩
theorem fz_iter{o:Obj}(h:Fz o):¬ IterO o:=by
 rintro q
 obtain ⟨h,_⟩:=h
 rcases q with q | q <;> rw[q] at h <;> exact absurd h (by decide+kernel)
theorem LvA.gu(O:GOk cx G)(a:LvA cx G ρ H s)(hC:∀ o,s.heap.get? G.C=some o→¬ Fz o)(u:Gu G s t):LvA cx G ρ H t∧Kp H.n ρ s.heap H.n ρ t.heap:=by
 have K:Kp H.n ρ s.heap H.n ρ t.heap:=⟨Nat.le_refl _,fun ι ι=>rfl,fun b o e hz=>u.keep b o e (fun q=>hC o (q▸e) hz) (.inr (fz_iter hz))⟩
 refine ⟨⟨⟨fun b o e=>u.keep b o (a.inv.keep b o e) (fun q=>O.new (q▸O.low b o e)) (.inl (O.low b o e)),u.os.trans a.inv.os,u.gens▸a.inv.bare,fun i hi => ?_,a.inv.inj,a.inv.low,a.inv.st,a.inv.nsys⟩,a.off,a.lt,a.at_,a.stack,a.lev,fun b hb=>let ⟨o,e⟩:=a.al b hb; ⟨o,u.keep b o e (fun q=>O.new (q▸hb)) (.inl hb)⟩⟩,K⟩
 obtain ⟨ob,e,hn,_⟩:=iter_of (a.inv.objs i hi)
 exact (a.inv.objs i hi).mono K ((u.keep _ _ e (a.off i hi) (.inr hn)).trans e.symm)
theorem LvA.stk(a:LvA cx G ρ H s):∃ vs:Array Value,s.heap.IsList G.ai vs∧vs.toList=G.ids.map fun j => .ref (G.pl j):=by
 obtain ⟨vs,k,e,r⟩:=a.inv.list a.lt a.stack
 refine ⟨vs,a.at_▸isList_of e,?_⟩
 have lev:=a.lev
 revert r lev
 generalize vs.toList=l
 generalize G.ids=ids
 intro r lev
 induction ids generalizing l with
 | nil=>cases r; rfl
 | cons j js ih =>
  cases r with | cons r1 r =>
  obtain ⟨_,rfl⟩:=r1.inv_ref
  rw[(lev j (.head _)).2.1,ih _ r fun x hx=>lev x (.tail _ hx)]; rfl
theorem LvA.lvl(a:LvA cx G ρ H s){j:Nat}(hj:j∈G.ids):∃ vs:Array Value,s.heap.IsList (G.pl j) vs∧RepL H.n ρ s.heap vs.toList (G.lv j):=by
 obtain ⟨h1,h2,h3⟩:=a.lev j hj
 obtain ⟨vs,k,e,r⟩:=a.inv.list h1 h3
 exact ⟨vs,h2▸isList_of e,r⟩
theorem isList_eq{h:Heap}{a:Addr}{vs ws:Array Value}(x:h.IsList a vs)(y:h.IsList a ws):vs=ws:=by
 obtain ⟨o,e,_,n,d⟩:=x
 obtain ⟨o',e',_,n',d'⟩:=y
 rw[e] at e'; first | contradiction | cases e'
 rw[d] at d'; cases d'; rfl
end
end
section
section
variable {prog:Program} {w:World} {A:Around} {E:Value→Shared→Prop} {s:Shared} {it l:Addr} {i:Nat} {items:Array Value}
theorem stop_made(hh:A.handled=none){h0:Heap}(hk:Heap.ExtBut it h0 s.heap){α:Type}{R:α→Shared→Prop}
  (hQ:∀ a vs h',Heap.ExtBut it h0 h'→h'.get? a=some { cls := .type "StopIteration",data := .fields vs }→vs[5]? = some .none→E (.ref a) { s with heap:=h' }) :
  wpAny (model prog w) A (do let e ← newExc (.type "StopIteration") []; raiseNew e:Sem α) R E s:=by
 refine wpAny_bind ?_
 unfold newExc newTuple
 refine wpAny_bind (wpAny_newObj_type ?_ (by size_fits))
 refine wpAny_bind (m:=firstArgMember _ _) (wpAny_of_eq (a:=Value.none) (by first | rfl | (simp only[firstArgMember]; rfl)) ?_)
 refine wpAny_newObj_type ?_ (by size_fits)
 unfold raiseNew
 refine wpAny_bind (wpAny_handled ?_)
 rw[hh]
 exact wpAny_bind (wpAny_pure (wpAny_throw (hQ _ _ _ ((hk.push _).push _) (Heap.get?_push_size _ rfl) rfl)))
theorem cs_item{x:Value}{Q:Option Value→Shared→Prop}(hit:s.heap.IsListIter it l i)(hl:s.heap.IsList l items)(hx:items[i]? = some x)
  (hQ:∀ h',h'.IsListIter it l (i+1)→Heap.SameBut it s.heap h'→Q (some x) { s with heap:=h' }):wpAny (model prog w) A (callSpecial? (.ref it) "__next__" []) Q E s:=by
 obtain ⟨o,ho,hc,hd⟩:=id hit
 obtain ⟨ol,hol,_,nl,hdl⟩:=hl
 refine wpAny_callSpecial?_slot (name:=Str.ofString "__next__") hit.typeIs slot_listiter_next
  (wpAny_call_entry slot_listiter_next hit.typeIs entry_listiter_next ?_ (args_listiter_next _))
 show wpAny _ _ (field (.ref it) 0 >>= _) _ _ s
 refine wpAny_bind (wpAny_field ho hd (x := .ref l) rfl (wiF Bool.false_ne_true ?_))
 show wpAny _ _ (field (.ref it) 1 >>= _) _ _ s
 refine wpAny_bind (wpAny_field ho hd (x := .int i 0) rfl ?_)
 show wpAny _ _ (seqItems? (.ref l) >>= _) _ _ s
 refine wpAny_bind (wpAny_seqItems hol hdl ?_)
 show wpAny _ _ (match items[(i:Int).toNat]? with | some x=>_ | none=>_) _ _ s
 rw[Int.toNat_natCast,hx]
 refine wpAny_bind (wpAny_setField ho hd (by simp) (wpAny_pure ⟨x,rfl,hQ _ ?_ (Heap.SameBut.update ..)⟩))
 exact ⟨_,Heap.get?_update_self _ ho (Obj.isFreed_of_fields (Obj.data_mapFields hd _)),(Obj.cls_mapFields ..).trans hc,by
  rw[Obj.data_mapFields hd]; simp [rawInt]⟩
theorem cs_end{Q:Option Value→Shared→Prop}(hh:A.handled=none)(hit:s.heap.IsListIter it l i)(hl:s.heap.IsList l items)(hx:items[i]? = none)
  (hE:∀ a vs h',Heap.ExtBut it s.heap h'→h'.get? a=some { cls := .type "StopIteration",data := .fields vs }→vs[5]? = some .none→E (.ref a) { s with heap:=h' }):wpAny (model prog w) A (callSpecial? (.ref it) "__next__" []) Q E s:=by
 obtain ⟨o,ho,hc,hd⟩:=id hit
 obtain ⟨ol,hol,_,nl,hdl⟩:=hl
 refine wpAny_callSpecial?_slot (name:=Str.ofString "__next__") hit.typeIs slot_listiter_next
  (wpAny_call_entry slot_listiter_next hit.typeIs entry_listiter_next ?_ (args_listiter_next _))
 show wpAny _ _ (field (.ref it) 0 >>= _) _ _ s
 refine wpAny_bind (wpAny_field ho hd (x := .ref l) rfl (wiF Bool.false_ne_true ?_))
 show wpAny _ _ (field (.ref it) 1 >>= _) _ _ s
 refine wpAny_bind (wpAny_field ho hd (x := .int i 0) rfl ?_)
 show wpAny _ _ (seqItems? (.ref l) >>= _) _ _ s
 refine wpAny_bind (wpAny_seqItems hol hdl ?_)
 show wpAny _ _ (match items[(i:Int).toNat]? with | some x=>_ | none=>_) _ _ s
 rw[Int.toNat_natCast,hx]
 refine wpAny_bind (wpAny_rule (wpAny_bind (wpAny_setField ho hd (by simp) ?_)))
 exact stop_made (A:=A.in1) (it:=it) (h0:=s.heap) hh (Heap.SameBut.update ..).extBut hE
end
end
section
section
variable {cx:Cx} {G:GP} {s₀ s t:Shared} {ρ:Nat→Addr} {H:Hp} {A:Around}
noncomputable abbrev GP.rest(G:GP)(q:Nat):List V:=(G.ids.take q).reverse.flatMap G.lv
noncomputable abbrev GP.all(G:GP):List V:=G.ids.reverse.flatMap G.lv
noncomputable def gEnd(G:GP):GenEnd:=fun n s₀ r s=>r = .ok (.ret .none)∧n=0∧Gu G s₀ s
noncomputable def gYield(cx:Cx)(G:GP):Protocol:=fun m s₀ v s kap=>(∃ x,G.all[G.all.length-1-m]? = some x∧∀ ρ H,LvA cx G ρ H s→Rep H.n ρ s.heap v x)∧Gu G s₀ s∧(∃ o,s.heap.get? G.C=some o∧¬ Fz o) ∧
 ∃ P:Shared→Prop,P s∧(∀ t t',P t→Sb cx G t t'→P t')∧∀ t,P t→kap (.send .none) t
structure SF (cx:Cx) (G:GP) (q:Nat) (r1:Addr) (t:Shared):Prop where
 ga:Ex2 fun ρ H=>LvA cx G ρ H t
 ns:∃ m,t.heap.Ns G.C m
 rev:t.heap.IsRevIter r1 G.ai ((q:Int)-1)
 hq:q≤G.ids.length
 nr:¬ G.old r1
theorem SF.sb{q r1 t'}(h:SF cx G q r1 t)(b:Sb cx G t t'):SF cx G q r1 t':=by
 obtain ⟨_,⟨m,hn⟩,⟨o,e,hc,hd⟩,hq,nr⟩:=h
 exact ⟨b.ga,⟨m,hn.at' fun o e=>b.keep _ o e (.inl rfl)⟩,⟨o,b.keep _ o e (.inr ⟨.inr hc,nr⟩),hc,hd⟩,hq,nr⟩
theorem no_close:typeLookup (.type "list_iterator") "close"=pure none:=by
 rw[typeLookup_type,builtinLookup_eq_fast]; kernel_rfl
theorem entry_yf:entryFor table "proto.yield_from"=some Builtin.«proto.yield_from» := entryFor_of_tree (by kernel_rfl)
theorem seg_builtin{R:GenEnd}{Y:Protocol}{n:Nat}{fs:List Frame}{id:String}{args:Args}{b:Builtin}(hb:entryFor table id=some b)(h:Seg cx.M A R Y n s₀ (.builtin id args) (b args) fs s):Seg cx.M A R Y n s₀ (.builtin id args) (cx.M.den (.builtin id args)) fs s:=by
 show Seg _ _ _ _ _ _ _ (match entryFor table id with | some b=>b args | none=>_) _ _
 rw[hb]; exact h
noncomputable abbrev yfC(p:Addr):Code := .builtin "proto.yield_from" ⟨[.ref p,.bool false,.none],[]⟩
variable {R:GenEnd} {Y:Protocol} {n:Nat} {fs:List Frame} {p l:Addr} {i:Nat} {items:Array Value}
theorem slept{A:Around}{E}{b:Bool}{Q:Unit→Shared→Prop}(hit:s.heap.IsListIter p l i)(h:Q () s):wpAny cx.M A (Builtin.Generator.sleptOver (.ref p) b) Q E s:=by
 obtain ⟨o,ho,hc,_⟩:=hit
 unfold Builtin.Generator.sleptOver
 refine wpAny_bind (wpAny_load ho (wiT ?_ (wpAny_pure h)))
 rw[hc]; rfl
theorem sgT{c:Code}{q:Prop}[Decidable q]{x y:Sem PySem.Fin}(hc:q)(h:Seg cx.M A R Y n s₀ c x fs s):Seg cx.M A R Y n s₀ c (if q then x else y) fs s:=by rw[if_pos hc]; exact h
theorem sgF{c:Code}{q:Prop}[Decidable q]{x y:Sem PySem.Fin}(hc:¬ q)(h:Seg cx.M A R Y n s₀ c y fs s):Seg cx.M A R Y n s₀ c (if q then x else y) fs s:=by rw[if_neg hc]; exact h
theorem yf_item{x:Value}(hfs:splitAtGen fs=none)(hfg:fs.any Frame.guarded=false)(hit:s.heap.IsListIter p l i)(hl:s.heap.IsList l items)(hx:items[i]? = some x)
  (hY:∀ h',h'.IsListIter p l (i+1)→Heap.SameBut p s.heap h'→∀ kap:Resume→Shared→Prop,(∀ t,(∃ k,t.heap.IsListIter p l k)→Seg cx.M A R Y n t (yfC p) (cx.M.den (yfC p)) fs t→kap (.send .none) t)→Y n s₀ x { s with heap:=h' } kap) :
  Seg cx.M A R Y (n+1) s₀ (yfC p) (cx.M.den (yfC p)) fs s:=by
 refine seg_builtin entry_yf ?_
 unfold Builtin.«proto.yield_from»
 refine seg_bind (wpAny_pure (seg_bind (wpAny_attempt (wpAny_holding (wiF Bool.false_ne_true (wiT rfl (wpAny_bind (wpAny_rule (wpAny_bind (cs_item hit hl hx fun h' hit' hs=>wpAny_pure ?_))))))))))
 refine seg_bind (wpAny_typeOf hit'.typeIs (seg_bind (wpAny_of_eq no_close (seg_bind (wpAny_pure (seg_bind (slept hit' ?_)))))))
 refine seg_yield hfs rfl hfg (hY h' hit' hs _ fun t ht hS => ?_)
 obtain ⟨k,ht⟩:=ht
 exact seg_bind (wpAny_pure (seg_bind (slept ht (seg_bind (wpAny_pure (seg_again (by with_unfolding_all rfl) hS))))))
theorem yf_end(hh:(A.over (yfC p) fs).handled=none)(hit:s.heap.IsListIter p l i)(hl:s.heap.IsList l items)(hx:items[i]? = none)
  (hE:∀ h',Heap.ExtBut p s.heap h'→Seg cx.M A R Y n s₀ (yfC p) (ret .none) fs { s with heap:=h' }) :
  Seg cx.M A R Y n s₀ (yfC p) (cx.M.den (yfC p)) fs s:=by
 refine seg_builtin entry_yf ?_
 unfold Builtin.«proto.yield_from»
 refine seg_bind (wpAny_pure (seg_bind (wpAny_attempt (wpAny_holding (wiF Bool.false_ne_true (wiT rfl (wpAny_bind (wpAny_rule (wpAny_bind (cs_end hh hit hl hx fun a vs h' hs ho h5 => ?_))))))))))
 have hT:Shared.TypeIs { s with heap:=h' } (.ref a) "StopIteration":=⟨_,ho,rfl⟩
 refine seg_bind (wpAny_bind (wpAny_bind (wpAny_typeOf hT (wpAny_bind (wpAny_of_eq isSubtype_stop (wpAny_bind (wpAny_of_eq (a := .type "type") rfl (wpAny_pure (wiF Bool.false_ne_true (wpAny_pure (sgT rfl (sgF Bool.false_ne_true ?_))))))))))))
 exact seg_bind (wpAny_rule (seg_bind (wpAny_field ho rfl h5 (hE h' hs))))
end
end
section
section
variable {cx:Cx} {G:GP} {s₀ s t:Shared} {ρ:Nat→Addr} {H:Hp} {A:Around} {q j:Nat} {r1 p l:Addr} {h':Heap}
theorem iter_ne{i:Nat}{z:Int}{l':Addr}(a:s.heap.IsListIter p l i)(b:s.heap.IsRevIter r1 l' z):r1≠p:=by
 rintro rfl
 obtain ⟨o,e,hc,_⟩:=a
 obtain ⟨o',e',hc',_⟩:=b
 rw[e] at e'; cases e'; rw[hc] at hc'
 exact absurd (Value.type.inj hc') (by decide)
theorem ns_ne{m}{o:Obj}{vs:Array Value}(hn:s.heap.Ns G.C m)(e:s.heap.get? p=some o)(hd:o.data = .fields vs):G.C≠p:=by
 rintro rfl
 obtain ⟨o',_,_,e',hd',_⟩:=hn
 rw[e] at e'; cases e'; rw[hd] at hd'; first | contradiction | cases hd'
theorem SF.own(O:GOk cx G)(ga:Ex2 fun ρ H=>LvA cx G ρ H s)(ns:∃ m,s.heap.Ns G.C m){o:Obj}{vs:Array Value}(e:s.heap.get? p=some o)(hi:IterO o)(hd:o.data = .fields vs)(np:¬ G.old p)(hx:Heap.ExtBut p s.heap h'):
  (Ex2 fun ρ H=>LvA cx G ρ H { s with heap:=h' })∧(∃ m,h'.Ns G.C m)∧Gu G s { s with heap:=h' }:=by
 obtain ⟨ρ,H,a⟩:=ga
 obtain ⟨m,hn⟩:=ns
 have u:Gu G s { s with heap:=h' }:=⟨rfl,rfl,fun b ob eb hb ho=>hx b ob (fun q=>by subst q; rw[e] at eb; cases eb; exact ho.elim np fun q=>q hi) eb⟩
 exact ⟨⟨ρ,H,(a.gu O (nf_ns hn) u).1⟩,⟨m,hn.at' fun o' e'=>hx _ o' (ns_ne hn e hd) e'⟩,u⟩
theorem SF.at_p(O:GOk cx G){i:Nat}(st:SF cx G q r1 s)(hit:s.heap.IsListIter p l i)(np:¬ G.old p)(hx:Heap.ExtBut p s.heap h'):SF cx G q r1 { s with heap:=h' }∧Gu G s { s with heap:=h' }:=by
 obtain ⟨o,e,hc,hd⟩:=id hit
 obtain ⟨g1,g2,u⟩:=SF.own O st.ga st.ns e (.inl hc) hd np hx
 exact ⟨⟨g1,g2,st.rev.at fun o e=>hx _ o (iter_ne hit st.rev) e,st.hq,st.nr⟩,u⟩
theorem sy1{a k b:Nat}(h:k<a):a-k+b=(a-(k+1)+b)+1:=by trivial
theorem sy2{p a b k:Nat}(h:k<a):p+(a+b)-1-(a-(k+1)+b)=p+k:=by trivial
theorem seg_yf(O:GOk cx G){fs:List Frame}{k1:Result→Sem PySem.Fin}{l1:List Value}{c1:Code}{p1:Pos}
  (hfs:splitAtGen (.ret k1 none false l1 c1 p1 []::fs)=none) (hfg:(Frame.ret k1 none false l1 c1 p1 []::fs).any Frame.guarded=false) (hh:∀ p,(A.over (yfC p) (.ret k1 none false l1 c1 p1 []::fs)).handled=none)
  (hF:∀ s₀ s,SF cx G q r1 s→Gu G s₀ s→Seg cx.M A (gEnd G) (gYield cx G) (G.rest q).length s₀ c1 (k1 (.ok (.ret .none))) fs s) {pre:List V} (hall:G.all=pre++(G.lv j++G.rest q)) (hj:j∈G.ids) :
  ∀ (d k:Nat) (s₀ s:Shared) (p:Addr),(G.lv j).length-k=d→k≤(G.lv j).length→SF cx G q r1 s→s.heap.IsListIter p (G.pl j) k→¬ G.old p→Gu G s₀ s →
   Seg cx.M A (gEnd G) (gYield cx G) ((G.lv j).length-k+(G.rest q).length) s₀ (yfC p) (cx.M.den (yfC p)) (.ret k1 none false l1 c1 p1 []::fs) s:=by
 intro d
 induction d with
 | zero =>
  intro k s₀ s p hd hk st hit np u
  obtain ⟨ρ,H,a⟩:=st.ga
  obtain ⟨vs,hl,r⟩:=a.lvl hj
  rw[hd,Nat.zero_add]
  refine yf_end (hh p) hit hl ?_ fun h' hx => ?_
  ·rw[Array.getElem?_eq_none_iff,size_of r]; exact Nat.sub_eq_zero_iff_le.mp hd
  ·obtain ⟨st',u'⟩:=st.at_p O hit np hx
   exact seg_leaf (.ok (.ret .none)) (hF s₀ _ st' (u.trans u'))
 | succ d ih =>
  intro k s₀ s p hd hk st hit np u
  have hkl:k<(G.lv j).length:=Nat.lt_of_sub_eq_succ hd
  obtain ⟨ρ,H,a⟩:=st.ga
  obtain ⟨vs,hl,r⟩:=a.lvl hj
  obtain ⟨v,hv,_⟩:=r.get k (List.getElem?_eq_getElem hkl)
  rw[Array.getElem?_toList] at hv
  rw[sy1 hkl]
  refine yf_item hfs hfg hit hl hv fun h' hit' hs kap hkap => ?_
  obtain ⟨st',u'⟩:=st.at_p O hit np hs.extBut
  refine ⟨⟨(G.lv j)[k],?_,fun ρ' H' a' => ?_⟩,u.trans u',(by obtain ⟨m,hn⟩:=st'.ns; obtain ⟨o,_,_,e,_⟩:=id hn; exact ⟨o,e,nf_ns hn o e⟩),fun t=>SF cx G q r1 t∧t.heap.IsListIter p (G.pl j) (k+1),⟨st',hit'⟩,fun t t' ht b=>⟨ht.1.sb b,?_⟩,fun t ht=>hkap t ⟨_,ht.2⟩ ?_⟩
  ·rw[hall,show (pre++(G.lv j++G.rest q)).length-1-((G.lv j).length-(k+1)+(G.rest q).length)=pre.length+k by rw[List.length_append,List.length_append,sy2 hkl],List.getElem?_append_right (Nat.le_add_right ..),Nat.add_sub_cancel_left,List.getElem?_append_left hkl]
   exact List.getElem?_eq_getElem hkl
  ·obtain ⟨vs',hl',r'⟩:=a'.lvl hj
   have hl2:h'.IsList (G.pl j) vs:=by
    obtain ⟨o,e,hc,n,hd⟩:=hl
    refine ⟨o,hs.extBut _ o (fun q => ?_) e,hc,n,hd⟩
    obtain ⟨o',e',hc',_⟩:=hit
    rw[q,e'] at e; cases e; rw[hc'] at hc
    exact absurd (Value.type.inj hc) (by decide)
   obtain ⟨v',hv',r''⟩:=r'.get k (List.getElem?_eq_getElem hkl)
   rw[Array.getElem?_toList,isList_eq hl' hl2,hv] at hv'
   cases hv'; exact r''
  ·obtain ⟨o,e,hc,hd⟩:=ht.2
   exact ⟨o,b.keep _ o e (.inr ⟨.inl hc,np⟩),hc,hd⟩
  ·exact ih (k+1) t t p (congrArg Nat.pred hd) hkl ht.1 ht.2 np (Gu.refl t)
end
end
section
section
variable {cx:Cx} {G:GP} {s₀ s t:Shared} {ρ:Nat→Addr} {H:Hp} {A:Around} {q j:Nat} {r1 p l:Addr} {h':Heap} {p1 p2 p3 p4 p5 p6 p7 p8 p9 p10:Pos}
theorem SF.toks{k:Nat}(O:GOk cx G)(st:SF cx G q r1 s):SF cx G q r1 { s with toks:=k }:=by
 obtain ⟨⟨ρ,H,a⟩,⟨m,hn⟩,hr,hq,nr⟩:=st
 exact ⟨⟨ρ,H,(a.gu (t:={ s with toks:=k }) O (nf_ns hn) ⟨rfl,rfl,fun ι ι e ι ι=>e⟩).1⟩,⟨m,hn⟩,hr,hq,nr⟩
theorem seg_for(O:GOk cx G){k1:Result→Sem PySem.Fin}{l1:List Value}{c1:Code}{pp:Pos}(hh:A.handled=none)
  (hF:∀ s₀ s,Gu G s₀ s→Seg cx.M A (gEnd G) (gYield cx G) 0 s₀ c1 (k1 (.ok .next)) [] s) :
  ∀ (q:Nat) (s₀ s:Shared),SF cx G q r1 s→Gu G s₀ s →
   Seg cx.M A (gEnd G) (gYield cx G) (G.rest q).length s₀ (.forLoop (.Name "namespaces" p1) (.ref r1) (gIf p5 p6 p7 p8 p9) [] G.env) (cx.M.den (.forLoop (.Name "namespaces" p1) (.ref r1) (gIf p5 p6 p7 p8 p9) [] G.env)) [.ret k1 none false l1 c1 pp []] s:=by
 intro q
 induction q with
 | zero =>
  intro s₀ s st u
  show Seg _ A _ _ _ s₀ _ ((forTurn (.Name "namespaces" p1) (.ref r1) (gIf p5 p6 p7 p8 p9) [] G.env).onRaise (fun x=>do noteFrame x G.env; theTreesLotGoes x)) _ s
  rw[Sem.onRaise_eq_wrap]
  unfold forTurn
  refine seg_bind_wrap (wpAny_standAt (seg_bind_wrap (wpAny_onRaise (wpAny_pyNext_rev_end hh st.rev fun h' hx => ?_))))
  obtain ⟨o,e,hc,hd⟩:=id st.rev
  obtain ⟨g1,g2,u'⟩:=SF.own O st.ga st.ns e (.inr hc) hd st.nr hx
  refine seg_again (c' := .block [] G.env) rfl (seg_leaf (.ok .next) ?_)
  exact hF s₀ _ (u.trans u')
 | succ q ih =>
  intro s₀ s st u
  have hql:q<G.ids.length:=st.hq
  have hrest:G.rest (q+1)=G.lv G.ids[q]++G.rest q:=by
   show ((G.ids.take (q+1)).reverse).flatMap G.lv=_
   rw[List.take_add_one,List.getElem?_eq_getElem hql,List.reverse_append,List.flatMap_append]
   exact congrArg (· ++ _) (List.append_nil _)
  obtain ⟨ρ,H,a⟩:=id st.ga
  obtain ⟨vs,hl,hvs⟩:=a.stk
  have hv:vs[q]? = some (.ref (G.pl G.ids[q])):=by
   rw[← Array.getElem?_toList,hvs,List.getElem?_map,List.getElem?_eq_getElem hql]; rfl
  have hrev:s.heap.IsRevIter r1 G.ai (q:Int):=by
   have:=st.rev
   rwa [show ((q+1:Nat):Int)-1=(q:Int) by trivial] at this
  obtain ⟨o,e,hc,hd⟩:=id st.rev
  show Seg _ A _ _ _ s₀ _ ((forTurn (.Name "namespaces" p1) (.ref r1) (gIf p5 p6 p7 p8 p9) [] G.env).onRaise (fun x=>do noteFrame x G.env; theTreesLotGoes x)) _ s
  rw[Sem.onRaise_eq_wrap]
  unfold forTurn
  refine seg_bind_wrap (wpAny_standAt (seg_bind_wrap (wpAny_onRaise (wpAny_pyNext_rev_item hrev hl hv fun h1 hr1 hs1 => ?_))))
  obtain ⟨g1,⟨m,hn⟩,u1⟩:=SF.own O st.ga st.ns e (.inr hc) hd st.nr hs1.extBut
  refine seg_bind_wrap (wpAny_of_eq (a:=()) rfl (seg_bind_wrap (wpAny_assign_Name (wpAny_storeName_local O.cur hn (fun h2 hn2 hs2 => ?_) (by rw[O.kind]; rfl)))))
  have u2:Gu G { s with heap:=h1 } { s with heap:=h2,toks:=s.toks+1 }:=⟨rfl,rfl,fun b ob eb hb ι=>hs2.extBut b ob hb eb⟩
  obtain ⟨ρ1,H1,a1⟩:=g1
  have a2:=(a1.gu O (nf_ns hn) u2).1
  have hr2:h2.IsRevIter r1 G.ai ((q:Int)-1):=hr1.at fun o' e'=>hs2.extBut _ o' (fun q=>by
   obtain ⟨o1,e1,_,hd1⟩:=hr1
   exact ns_ne (s:={ s with heap:=h1 }) hn e1 hd1 q.symm) e'
  have st2:SF cx G q r1 { s with heap:=h2,toks:=s.toks+1 }:=⟨⟨_,_,a2⟩,⟨_,hn2⟩,hr2,Nat.le_of_lt hql,st.nr⟩
  have u02:=(u.trans u1).trans u2
  rw[Sem.bind_eq_wrap',Sem.wrap_wrap]
  refine seg_execs_cons ?_
  rw[exec_If]
  refine seg_bind_wrap (wpAny_standAt (seg_bind_wrap ?_))
  obtain ⟨vj,hlj,rj⟩:=a2.lvl (List.getElem_mem hql)
  rw[isTrue_plain rfl]
  refine wpAny_bind (wpAny_Name (wpAny_loadName_local O.kind O.cur hn2 (if_pos rfl) (wpAny_bind (wpAny_standAt (wpAny_holding (wpAny_truthy_list hlj (le_line (size_of rj▸O.small _ (List.getElem_mem hql))) ?_))))) rfl)
  have st3:∀ k,SF cx G q r1 { s with heap:=h2,toks:=k }:=fun k=>st2.toks (k:=k) O
  have u03:∀ k,Gu G s₀ { s with heap:=h2,toks:=k }:=fun k=>u02.trans ⟨rfl,rfl,fun ι ι e ι ι=>e⟩
  have hsz:=size_of rj
  rw[hrest]
  cases hb:vj.isEmpty with
  | true =>
   have hz:G.lv G.ids[q]=[]:=List.length_eq_zero_iff.mp (hsz▸Array.isEmpty_iff_size_eq_zero.mp hb)
   rw[hz]
   exact seg_again (c' := .forLoop (.Name "namespaces" p1) (.ref r1) (gIf p5 p6 p7 p8 p9) [] G.env) rfl (ih s₀ _ (st3 _) (u03 _))
  | false =>
   refine seg_execs_cons ?_
   rw[exec_Expr _ _ _ (by unfold interactive; rw[O.kind]; rfl) rfl,arm_eval_YieldFrom]
   refine seg_bind_wrap (wpAny_standAt ?_)
   rw[bind_assoc]
   refine seg_bind_wrap (wpAny_Name (wpAny_loadName_local O.kind O.cur hn2 (if_pos rfl) ?_) rfl)
   rw[bind_assoc]
   refine seg_bind_wrap (wpAny_standAt ?_)
   unfold yieldFrom
   rw[bind_assoc]
   refine seg_bind_wrap (wpAny_typeOf hlj.typeIs ?_)
   rw[if_neg (show ¬ ((Value.type "list"==Value.type "coroutine")=true) by decide),bind_assoc]
   refine seg_bind_wrap (wpAny_holding (wpAny_pyIter_list hlj ?_))
   unfold runValue run
   refine seg_call fun pp' => ?_
   have hall:G.all=(G.ids.drop (q+1)).reverse.flatMap G.lv++(G.lv G.ids[q]++G.rest q):=by
    rw[← hrest,← List.flatMap_append,← List.reverse_append,List.take_append_drop]
   have u4:Gu G { s with heap:=h2,toks:=s.toks+1 } { s with heap:=h2.push { cls := .type "list_iterator",data := .fields #[.ref (G.pl G.ids[q]),.int 0 0] },toks:=s.toks+1+1+1 }:=⟨rfl,rfl,fun b o e ι ι=>Heap.get?_push_of_some _ e⟩
   have a4:=(a2.gu O (nf_ns hn2) u4).1
   rw[List.length_append]
   refine seg_yf (A:=A) (fs:=[.ret k1 none false l1 c1 pp []]) O rfl rfl (fun p=>hh) (fun s₀ s' st' u' => ?_) hall (List.getElem_mem hql) _ 0 s₀ _ _ rfl (Nat.zero_le _) ⟨⟨_,_,a4⟩,⟨_,hn2.push _⟩,hr2.at fun o e=>Heap.get?_push_of_some _ e,Nat.le_of_lt hql,st.nr⟩ ⟨_,Heap.get?_push_size _ rfl,rfl,rfl⟩ (fun hq => ?_) (u02.trans u4)
   ·exact seg_again (c' := .forLoop (.Name "namespaces" p1) (.ref r1) (gIf p5 p6 p7 p8 p9) [] G.env) rfl (ih s₀ s' st' u')
   ·obtain ⟨o,e⟩:=a2.al _ hq
    rw[get?_size] at e; exact noS e
end
end
section
section
variable {cx:Cx} {G:GP} {s₀ s t:Shared} {ρ:Nat→Addr} {H:Hp} {A:Around} {p1 p2 p3 p4 p5 p6 p7 p8 p9 p10:Pos}
structure SG (cx:Cx) (G:GP) (t:Shared):Prop where
 ga:Ex2 fun ρ H=>LvA cx G ρ H t
 ns:∃ m,t.heap.Ns G.C m∧m "ns_stack"=some (.ref G.ai)∧m "_reversed"=some (.type "reversed")
theorem SG.sb{t'}(h:SG cx G t)(b:Sb cx G t t'):SG cx G t':=by
 obtain ⟨_,m,hn,h1,h2⟩:=h
 exact ⟨b.ga,m,hn.at' fun o e=>b.keep _ o e (.inl rfl),h1,h2⟩
theorem seg_gen(O:GOk cx G)(hh:A.handled=none)(st:SG cx G s):
  Seg cx.M A (gEnd G) (gYield cx G) G.all.length s (.func (gBody p1 p2 p3 p4 p5 p6 p7 p8 p9 p10) G.env) (cx.M.den (.func (gBody p1 p2 p3 p4 p5 p6 p7 p8 p9 p10) G.env)) [] s:=by
 obtain ⟨⟨ρ,H,a⟩,m,hn,hs,hr⟩:=st
 refine seg_func (seg_execs_cons ?_)
 rw[exec_For]
 refine seg_bind_wrap (wpAny_standAt (seg_bind_wrap ?_))
 refine wpAny_Call_Name_kw (wpAny_Name (wpAny_loadName_local O.kind O.rev hn hr ?_) rfl)
 refine PyProof.Rows.callWith_type1 (Calls.spliced_cons (wpAny_Name (wpAny_loadName_local O.kind O.stk hn hs (Calls.spliced_nil ?_)) rfl))
 obtain ⟨vs,hl,hvs⟩:=a.stk
 refine call_reversed_list hl ?_
 have hsz:vs.size=G.ids.length:=by rw[← Array.length_toList,hvs,List.length_map]
 have u4:Gu G s { s with heap:=s.heap.push (revObj G.ai ((vs.size:Int)-1)) }:=⟨rfl,rfl,fun b o e ι ι=>Heap.get?_push_of_some _ e⟩
 have hrv:Heap.IsRevIter (s.heap.push (revObj G.ai ((vs.size:Int)-1))) s.heap.objs.size G.ai ((G.ids.length:Int)-1):=⟨_,Heap.get?_push_size _ rfl,rfl,by rw[hsz]; rfl⟩
 refine seg_bind_wrap (wpAny_of_eq (a := .ref s.heap.objs.size) rfl (seg_bind_wrap (wpAny_standAt (seg_bind_wrap (wpAny_holding (wpAny_pyIter_revIter hrv ?_))))))
 unfold runOwn run
 rw[Sem.onRaise_eq_wrap]
 refine seg_call fun pp => ?_
 have hall:G.all=G.rest G.ids.length:=by show _=((G.ids.take G.ids.length).reverse).flatMap G.lv; rw[List.take_length]
 rw[hall]
 refine seg_for O hh (fun s₀ s u => ?_) _ s _ ⟨⟨_,_,(a.gu O (nf_ns hn) u4).1⟩,⟨m,hn.push _⟩,hrv,Nat.le_refl _,fun hq => ?_⟩ u4
 ·exact seg_end (.ok (.ret .none)) ⟨rfl,rfl,u⟩
 ·obtain ⟨o,e⟩:=a.al _ hq
  rw[get?_size] at e; exact noS e
end
end
section
section
variable {cx:Cx} {G:GP} {s₀ s t:Shared} {ρ:Nat→Addr} {H:Hp} {A:Around} {a:Addr} {g m:Nat}
structure GnAt (cx:Cx) (G:GP) (A:Around) (a:Addr) (g m:Nat) (t:Shared):Prop where
 obj:t.heap.IsGen a g
 ne:a≠G.C
 cs:∃ o,t.heap.get? G.C=some o∧¬ Fz o
 go:∃ (gs:GenState) (P:Shared→Prop),t.gens[g]? = some gs∧P t∧(∀ t t',P t→Sb cx G t t'→P t')∧∀ t,P t→gs.Goes cx.M A.in1 (gEnd G) (gYield cx G) m (.send .none) t
structure Gr (G:GP) (g:Nat) (s₀ s:Shared):Prop where
 os:s.os=s₀.os
 gens:GenOnly g s₀.gens s.gens
 keep:∀ b o,s₀.heap.get? b=some o→b≠G.C→(G.old b∨¬ IterO o)→s.heap.get? b=some o
theorem LvA.gens{gs:Array GenState}(x:LvA cx G ρ H s)(hb:AllBare gs):LvA cx G ρ H { s with gens:=gs } :=
 ⟨⟨x.inv.keep,x.inv.os,hb,x.inv.objs,x.inv.inj,x.inv.low,x.inv.st,x.inv.nsys⟩,x.off,x.lt,x.at_,x.stack,x.lev,x.al⟩
theorem LvA.grow(x:LvA cx G ρ H s)(hk:∀ b o,s.heap.get? b=some o→t.heap.get? b=some o)(hos:t.os=s.os)(hg:t.gens=s.gens):LvA cx G ρ H t∧Kp H.n ρ s.heap H.n ρ t.heap:=by
 have K:Kp H.n ρ s.heap H.n ρ t.heap:=⟨Nat.le_refl _,fun ι ι=>rfl,fun b o e ι=>hk b o e⟩
 refine ⟨⟨⟨fun b o e=>hk b o (x.inv.keep b o e),hos.trans x.inv.os,hg▸x.inv.bare,fun i hi => ?_,x.inv.inj,x.inv.low,x.inv.st,x.inv.nsys⟩,x.off,x.lt,x.at_,x.stack,x.lev,fun b hb=>let ⟨o,e⟩:=x.al b hb; ⟨o,hk b o e⟩⟩,K⟩
 obtain ⟨ob,e,_⟩:=iter_of (x.inv.objs i hi)
 exact (x.inv.objs i hi).mono K ((hk _ _ e).trans e.symm)
theorem Kp.trans{n ρ h n1 ρ1 h1 n2 ρ2 h2}(a:Kp n ρ h n1 ρ1 h1)(b:Kp n1 ρ1 h1 n2 ρ2 h2):Kp n ρ h n2 ρ2 h2 :=
 ⟨Nat.le_trans a.le b.le,fun i hi=>(b.agr i (Nat.lt_of_lt_of_le hi a.le)).trans (a.agr i hi),fun c o e hz=>b.fro c o (a.fro c o e hz) hz⟩
theorem bare_set{gs gs':GenState}(x:AllBare s.gens)(h:s.gens[g]? = some gs)(hb:gs'.bare=true):AllBare (s.setGen g gs').gens :=
 x.moved (GenOnlyQ.of (GenOnly.setGen s g gs') (setGen_self h) hb)
theorem gen_next{E}{Q:Option Value→Shared→Prop}(O:GOk cx G)(hh:A.handled=none)(hnl:s.heap.NoLimit)(hroom:A.depth<recursionLimit)(x:LvA cx G ρ H s)(ga:GnAt cx G A a g m s)
  (hi:∀ n v s1 y,m=n+1→G.all[G.all.length-1-n]? = some y→Gr G g s s1→LvA cx G ρ H s1→Rep H.n ρ s1.heap v y→Kp H.n ρ s.heap H.n ρ s1.heap→GnAt cx G A a g n s1→Q (some v) s1)
  (he:m=0→∀ s1,Gr G g s s1→LvA cx G ρ H s1→Kp H.n ρ s.heap H.n ρ s1.heap→Q none s1):wpAny cx.M A (pyNext (.ref a)) Q E s:=by
 obtain ⟨hg,hne,⟨oC,eC,hz⟩,gs,P,hgs,hP,hsb,hgo⟩:=ga
 have hnf:∀ o,s.heap.get? G.C=some o→¬ Fz o:=fun o e=>by rw[eC] at e; cases e; exact hz
 have x0:LvA cx G ρ H (s.setGen g .running):=x.gens (bare_set x.inv.bare hgs rfl)
 have go:=hgo (s.setGen g .running) (hsb _ _ hP ⟨⟨_,_,x0⟩,fun ι ι e ι=>e⟩)
 have g0:GenOnly g s.gens (s.setGen g .running).gens:=GenOnly.setGen s g .running
 unfold pyNext
 refine wpAny_bind (wpAny_attempt (wpAny_callSpecial?_slot (name:=Str.ofString "__next__") hg.typeIs slot_gen_next
  (wpAny_call_entry slot_gen_next hg.typeIs entry_gen_next ?_ (args_gen_next _))))
 show wpAny _ A.in1 (Builtin.Generator.genWake (.ref a) (.send .none)) _ _ s
 unfold Builtin.Generator.genWake
 refine wpAny_bind (wpAny_holding (wpAny_genNumber hg (wpAny_bind (wpAny_genState hgs ?_))))
 have main:∀ k:GenResult→Sem PySem.Fin,(∀ v,k (.yielded v)=ret v)→(∃ jp:Unit→Sem PySem.Fin,k (.returned .none)=(newExc (.type "StopIteration") [] >>= fun e=>raiseNew e >>= jp)) →
   wpAny cx.M A.in1 (.resume g (.send .none) [] k) (fun fin s'=>∃ r,fin = .done (.ret r)∧wpAny cx.M A (pure (some r)) Q E s') (fun e s'=>wpAny cx.M A (do if ← isInstance e (.type "StopIteration") then pure none else throw e:Sem (Option Value)) Q E s') s:=fun k hk1 hk2=>by
  refine wpAny_resumeQ hgs go (fun r s1 hr => ?_) (fun v s1 gs' hb hv => ?_)
  ·obtain ⟨rfl,hm,u⟩:=hr
   obtain ⟨x1,K1⟩:=x0.gu O hnf u
   have hg1:s1.gens[g]? = some .running:=by rw[u.gens]; exact setGen_self hgs
   have x2:LvA cx G ρ H (s1.setGen g .finished):=x1.gens (bare_set x1.inv.bare hg1 rfl)
   obtain ⟨jp,hk⟩:=hk2
   show wpAny _ _ (k (.returned .none)) _ _ _
   rw[hk,← bind_assoc]
   refine wpAny_bind ?_
   refine stop_new (A:=A.in1) (s:=s1.setGen g .finished) (it:=s1.heap.objs.size) (h0:=s1.heap) hh (Heap.ExtBut.refl _ _) fun e h' hx hT => ?_
   have hk2:∀ b o,s1.heap.get? b=some o→h'.get? b=some o:=fun b o eb=>hx b o (Nat.ne_of_lt (Heap.lt_size eb)) eb
   obtain ⟨x3,K3⟩:=x2.grow (t:={ s1.setGen g .finished with heap:=h' }) hk2 rfl rfl
   exact wpAny_bind (wpAny_isInstance (T:="StopIteration") (b:=true) hT isSubtype_stop (wiT rfl (wpAny_pure (he hm _ ⟨u.os,(g0.trans (u.gens▸⟨rfl,fun ι ι=>rfl⟩)).trans (GenOnly.setGen s1 g .finished),fun b o eb h1 h2=>hk2 b o (u.keep b o eb h1 h2)⟩ x3 (K1.trans K3)))))
  ·obtain ⟨⟨y,hy,hr⟩,u,hnf1,P',hP',hsb',hgo'⟩:=hv
   obtain ⟨x1,K1⟩:=x0.gu O hnf u
   have hg1:s1.gens[g]? = some .running:=by rw[u.gens]; exact setGen_self hgs
   have x2:LvA cx G ρ H (s1.setGen g gs'):=x1.gens (bare_set x1.inv.bare hg1 hb)
   have hg1':s1.heap.IsGen a g:=by
    obtain ⟨o,nm,qn,ho,hc,r⟩:=hg
    exact ⟨o,nm,qn,u.keep a o ho hne (.inr fun q=>by rcases q with q | q <;> (rw[hc] at q; exact absurd (Value.type.inj q) (by decide))),hc,r⟩
   rw[hk1]
   refine wpAny_pure ⟨v,rfl,wpAny_pure ?_⟩
   cases m with
   | zero=>exact (hgo' s1 hP').elim
   | succ n=>exact hi n v _ y rfl hy ⟨u.os,(g0.trans (u.gens▸⟨rfl,fun ι ι=>rfl⟩)).trans (GenOnly.setGen s1 g gs'),u.keep⟩ x2 (hr ρ H x1) K1 ⟨hg1',hne,hnf1,gs',P',setGen_self hg1,hsb' _ _ hP' ⟨⟨_,_,x2⟩,fun ι ι e ι=>e⟩,hsb',hgo'⟩
 cases gs with
 | running=>exact go.elim
 | finished=>exact go.elim
 | _ =>
  refine wpAny_bind (wpAny_roomToWake hnl hroom ?_)
  exact main _ (fun ι=>rfl) ⟨_,rfl⟩
end
end
section
section
variable {cx:Cx} {G:GP} {s₀ s t:Shared} {ρ ρ' ρ'':Nat→Addr} {H H' H'':Hp} {A:Around} {a:Addr} {g m n:Nat} {W:Addr→Prop} {env:Env} {sc:Sc} {loc loc1 loc2 loc':Loc}
structure Sg (cx:Cx) (G:GP) (g:Nat) (W:Addr→Prop) (ρ:Nat→Addr) (H:Hp) (s:Shared) (ρ':Nat→Addr) (H':Hp) (s':Shared):Prop where
 inv:Inv cx ρ' H' s'
 le:H.n≤H'.n
 agr:∀ i,i<H.n→ρ' i=ρ i
 fresh:∀ i,H.n≤i→i<H'.n→¬ G.old (ρ' i)
 ext:∀ b o,G.old b→s.heap.get? b=some o→(∀ i,i<H.n→ρ i≠b)→¬ W b→s'.heap.get? b=some o
 gx:∀ (k:Nat) x,k≠g→s.gens[k]? = some x→s'.gens[k]? = some x
theorem Sg.trans(S:Sg cx G g W ρ H s ρ' H' t){t':Shared}(T:Sg cx G g W ρ' H' t ρ'' H'' t'):Sg cx G g W ρ H s ρ'' H'' t' :=
 ⟨T.inv,Nat.le_trans S.le T.le,fun i hi=>(T.agr i (Nat.lt_of_lt_of_le hi S.le)).trans (S.agr i hi),fun i h1 h2=>by
  by_cases h:i<H'.n
  ·rw[T.agr i h]; exact S.fresh i h1 h
  ·exact T.fresh i (Nat.le_of_not_lt h) h2,
 fun b o hb e hm hw=>T.ext b o hb (S.ext b o hb e hm hw) (fun i hi q=>by
  by_cases h:i<H.n
  ·exact hm i h (by rw[← S.agr i h]; exact q)
  ·exact S.fresh i (Nat.le_of_not_lt h) hi (q▸hb)) hw,
 fun k x hk e=>T.gx k x hk (S.gx k x hk e)⟩
theorem Sg.of_stp(S:Stp cx W ρ H s ρ' H' t)(al:∀ b,G.old b→∃ o,s.heap.get? b=some o):Sg cx G g W ρ H s ρ' H' t :=
 ⟨S.inv,S.le,S.agr,fun i h1 h2 q=>by
  obtain ⟨o,e⟩:=al _ q
  rw[S.fresh i h1 h2] at e; exact noS e,fun b o ι e hm hw=>S.ext b o e hm hw,fun k x ι e=>S.gx k x e⟩
theorem Sg.of_gr(O:GOk cx G)(x:LvA cx G ρ H t)(u:Gr G g s t):Sg cx G g W ρ H s ρ H t :=
 ⟨x.inv,Nat.le_refl _,fun ι ι=>rfl,fun i h1 h2=>absurd h2 (Nat.not_lt.mpr h1),fun b o hb e ι ι=>u.keep b o e (fun q=>O.new (q▸hb)) (.inl hb),fun k y hk e=>(u.gens.2 k hk).trans e⟩
noncomputable def standsL(H H':Hp)(l:List Nat):Prop:=∀ k∈l,H'.f k=H.f k
structure Fo (G:GP) (env:Env) (a:Addr):Prop where
 wr:∀ b,Wr env b→G.old b
 na:¬ G.old a
theorem vars_gr(O:GOk cx G)(F:Fo G env a)(X:Vars cx env H.n ρ s.heap loc)(u:Gr G g s t)(K:Kp H.n ρ s.heap H.n ρ t.heap):Vars cx env H.n ρ t.heap loc:=by
 have up:∀ c,G.old c→∀ o,s.heap.get? c=some o→t.heap.get? c=some o:=fun c hc o e=>u.keep c o e (fun q=>O.new (q▸hc)) (.inl hc)
 obtain ⟨m,hn,hm⟩:=X.ns
 have hc:∀ y c,env.cells.lookup y=some c→G.old c:=fun y c e=>F.wr c (.inr ⟨y,e⟩)
 refine ⟨⟨m,hn.at' (up _ (F.wr _ (.inl rfl))),fun y v e k => ?_⟩,fun y v e k => ?_,X.apL,X.apC,fun y c e => ?_,X.has,X.dist,X.low⟩
 ·obtain ⟨u',h1,h2⟩:=hm y v e k
  exact ⟨u',h1,h2.mono K⟩
 ·obtain ⟨c,u',h1,h2,h3⟩:=X.cell y v e k
  exact ⟨c,u',h1,isCell_at h2 (up c (hc y c h1)),h3.mono K⟩
 ·obtain ⟨⟨v,hv⟩,h1,h2⟩:=X.cells y c e
  exact ⟨⟨v,isCell_at hv (up c (hc y c e))⟩,h1,h2⟩
theorem LvA.stp(x:LvA cx G ρ H s)(S:Stp cx W ρ H s ρ' H' t)(hwa:∀ b,W b→∃ o,t.heap.get? b=some o)(hC:∃ o,s.heap.get? G.C=some o∧¬ Fz o)(st:standsL H H' (G.i::G.ids)):LvA cx G ρ' H' t:=by
 refine ⟨S.inv,fun k hk q => ?_,Nat.lt_of_lt_of_le x.lt S.le,(S.agr _ x.lt).trans x.at_,(st _ (.head _)).trans x.stack,fun j hj => ?_,fun b hb => ?_⟩
 ·obtain ⟨o,e,_⟩:=hC
  exact S.old e x.off k hk q
 ·obtain ⟨h1,h2,h3⟩:=x.lev j hj
  exact ⟨Nat.lt_of_lt_of_le h1 S.le,(S.agr j h1).trans h2,(st j (.tail _ hj)).trans h3⟩
 ·obtain ⟨o,e⟩:=x.al b hb
  by_cases hm:∀ i,i<H.n→ρ i≠b
  ·by_cases hW:W b
   ·exact hwa b hW
   ·exact ⟨o,S.ext b o e hm hW⟩
  ·have ⟨i,hi⟩:=Classical.not_forall.mp hm
   have ⟨hi,hq⟩:=Classical.not_imp.mp hi
   have hq:=Classical.not_not.mp hq
   obtain ⟨ob,e',_⟩:=(S.inv.objs i (Nat.lt_of_lt_of_le hi S.le)).some
   rw[S.agr i hi,hq] at e'
   exact ⟨ob,e'⟩
theorem GnAt.stp(O:GOk cx G)(x:LvA cx G ρ H s)(S:Stp cx W ρ H s ρ' H' t)(hw:∀ b,W b→G.old b)(x':LvA cx G ρ' H' t)(F:¬ G.old a)(ga:GnAt cx G A a g m s):GnAt cx G A a g m t:=by
 obtain ⟨⟨o,nm,qn,ho,hc,r⟩,ne,⟨oC,eC,hz⟩,gs,P,hgs,hP,hsb,hgo⟩:=ga
 have off:∀ b ob,s.heap.get? b=some ob→(IterO ob∨ob.cls = .type "generator")→∀ i,i<H.n→ρ i≠b:=fun b ob e hi i hlt q=>by
  obtain ⟨ob',e',h1,h2⟩:=iter_of (x.inv.objs i hlt)
  rw[q,e] at e'; first | contradiction | cases e'
  exact hi.elim h1 h2
 have hC:t.heap.get? G.C=some oC:=S.ext _ _ eC x.off fun h=>O.new (hw _ h)
 refine ⟨⟨o,nm,qn,S.ext a o ho (off a o ho (.inr hc)) (fun h=>F (hw _ h)),hc,r⟩,ne,⟨oC,hC,hz⟩,gs,P,S.gx _ _ hgs,hsb _ _ hP ⟨⟨_,_,x'⟩,fun b ob e q => ?_⟩,hsb,hgo⟩
 rcases q with rfl | ⟨hi,hn⟩
 ·rw[eC] at e; cases e; exact hC
 ·exact S.ext b ob e (off b ob e (.inl hi)) fun h=>hn (hw _ h)
end
end
section
section
variable {pe:Pe} {cx:Cx} {n:Nat} {sc:Sc} {target:Expr} {body:List Stmt} {src:List Nat} {H0 H H1 H2:Hp} {x:V} {xs:List V} {loc loc1 loc2 loc':Loc} {fl fl':Fl}
noncomputable def GForG(cx:Cx)(n:Nat)(sc:Sc)(target:Expr)(body:List Stmt)(src:List Nat)(H0:Hp)(xs:List V)(loc:Loc)(H:Hp)(fl:Fl)(loc':Loc)(H':Hp):Prop :=
 ∀ {A env ρ s G a g} {R:Result→Shared→Prop},G.i::G.ids=src→standsL H0 H src→Cn cx n sc loc H A env ρ s→GOk cx G→LvA cx G ρ H s→GnAt cx G A a g xs.length s→(∃ pre,G.all=pre++xs)→Fo G env a →
  (∀ f s' ρ',Sg cx G g (Wr env) ρ H s ρ' H' s'→Vars cx env H'.n ρ' s'.heap loc'→RepF H'.n ρ' s'.heap f fl→R (.ok f) s')→codeAny cx.M A (.forLoop target (.ref a) body [] env) R s
theorem Ar.room{A:Around}(x:Ar n A):A.depth<recursionLimit:=Nat.lt_of_le_of_lt (Nat.le_add_right ..) x.depth
theorem wr_al{env:Env}{ρ:Nat→Addr}{h:Heap}{k:Nat}(X:Vars cx env k ρ h loc):∀ b,Wr env b→∃ o,h.get? b=some o:=fun b w=>by
 rcases w with rfl | ⟨y,w⟩
 ·obtain ⟨m,⟨o,_,_,e,_⟩,_⟩:=X.ns
  exact ⟨o,e⟩
 ·obtain ⟨⟨v,o,e,_⟩,_⟩:=X.cells y _ w
  exact ⟨o,e⟩
theorem fg_nil(P:PeOk pe cx):GForG cx n sc target body src H0 [] loc H .next loc H:=fun {A env ρ s G a g R} _ _ C O x ga _ F hR =>
 for_unroll (gen_next O C.ar.handled (P.noLimit.keeps C.inv.keep) C.ar.room x ga (fun k v s1 y e=>Nat.noConfusion e) fun ι s1 u x1 K=>hR _ _ _ (Sg.of_gr O x1 u) (vars_gr O F C.vars u K) .next)
theorem fg_turn(P:PeOk pe cx)(hb:bindT sc H target x loc=some loc1)(hx:GXs cx n sc body loc1 H fl loc2 H1){A env ρ s G a g}{R:Result→Shared→Prop}(hsrc:G.i::G.ids=src)(C:Cn cx n sc loc H A env ρ s)(O:GOk cx G)(xl:LvA cx G ρ H s)(ga:GnAt cx G A a g (x::xs).length s)(hall:∃ pre,G.all=pre++x::xs)(F:Fo G env a)
  (hR:∀ f s' ρ',Sg cx G g (Wr env) ρ H s ρ' H1 s'→Vars cx env H1.n ρ' s'.heap loc2→RepF H1.n ρ' s'.heap f fl→(standsL H H1 src→LvA cx G ρ' H1 s'∧GnAt cx G A a g xs.length s') →
   match f with | .next | .cont=>codeAny cx.M A (.forLoop target (.ref a) body [] env) R s' | .brk=>R (.ok .next) s' | .ret v=>R (.ok (.ret v)) s'):codeAny cx.M A (.forLoop target (.ref a) body [] env) R s:=by
 refine for_unroll (gen_next O C.ar.handled (P.noLimit.keeps C.inv.keep) C.ar.room xl ga (fun k v s1 y e hy u x1 r1 K ga1 => ?_) fun e=>Nat.noConfusion e)
 cases Nat.succ.inj e
 obtain ⟨pre,hall⟩:=hall
 have:y=x:=by
  rw[hall,List.length_append,List.length_cons,show pre.length+(xs.length+1)-1-xs.length=pre.length from Nat.add_sub_cancel ..,List.getElem?_append_right (Nat.le_refl _),Nat.sub_self] at hy
  exact (Option.some.inj hy).symm
 subst this
 have X1:=vars_gr O F C.vars u K
 obtain ⟨o,nm,qn,ho,hc,hd,_⟩:=ga1.obj
 refine own_skip ho hc hd (by decide) (bindT_sound (WrOk.wr sc env) C.ar.handled C.en hb x1.inv X1 r1 fun s3 S3 ι X3 => ?_)
 have x3:LvA cx G ρ H s3:=x1.stp S3 (wr_al X3) ga1.cs fun ι ι=>rfl
 have ga3:=ga1.stp O x1 S3 F.wr x3 F.na
 refine hx (C.to S3.inv X3) fun f s4 ρ4 S4 X4 rf => ?_
 refine hR f s4 ρ4 (((Sg.of_gr O x1 u).trans (Sg.of_stp S3 x1.al)).trans (Sg.of_stp S4 x3.al)) X4 rf fun st => ?_
 have x4:LvA cx G ρ4 H1 s4:=x3.stp S4 (wr_al X4) ga3.cs (hsrc▸st)
 exact ⟨x4,ga3.stp O x3 S4 F.wr x4 F.na⟩
theorem fg_cons(P:PeOk pe cx)(hb:bindT sc H target x loc=some loc1)(hx:GXs cx n sc body loc1 H fl loc2 H1)(hg:goesOn fl=true)(st:standsL H0 H1 src)(h:GForG cx n sc target body src H0 xs loc2 H1 fl' loc' H2):GForG cx n sc target body src H0 (x::xs) loc H fl' loc' H2:=fun {A env ρ s G a g R} hsrc st0 C O xl ga hall F hR=>by
 refine fg_turn P hb hx hsrc C O xl ga hall F fun f s1 ρ1 S1 X1 rf k => ?_
 obtain ⟨x4,ga4⟩:=k fun j hj=>(st j hj).trans (st0 j hj).symm
 obtain ⟨pre,hall⟩:=hall
 have go:=h hsrc st (C.to x4.inv X1) O x4 ga4 ⟨pre++[x],by rw[hall,List.append_assoc]; rfl⟩ F fun f s' ρ' S2 X2 r2=>hR f s' ρ' (S1.trans S2) X2 r2
 cases rf with
 | next=>exact go
 | cont=>exact go
 | _=>exact noB hg
theorem fg_ret{v:V}(P:PeOk pe cx)(hb:bindT sc H target x loc=some loc1)(hx:GXs cx n sc body loc1 H (.ret v) loc2 H1):GForG cx n sc target body src H0 (x::xs) loc H (.ret v) loc2 H1:=fun {A env ρ s G a g R} hsrc st0 C O xl ga hall F hR =>
 fg_turn P hb hx hsrc C O xl ga hall F fun f s1 ρ1 S1 X1 rf _=>by cases rf with | ret q=>exact hR _ _ _ S1 X1 (.ret q)
theorem fg_forget(hl:∀ y v,loc1.lookup y=some v→loc.lookup y=some v)(h:GForG cx n sc target body src H0 xs loc1 H fl loc' H2):GForG cx n sc target body src H0 xs loc H fl loc' H2:=fun hs st C O xl ga hall F hR=>h hs st (C.to C.inv (C.vars.congr hl)) O xl ga hall F hR
end
end
section
section
variable {pe:Pe} {cx:Cx} {n:Nat} {sc:Sc} {loc loc':Loc} {H H1 H2 H3:Hp} {ρ:Nat→Addr} {s:Shared} {A:Around}
theorem Stp.grownG{s'}(W)(I:Inv cx ρ H s)(hk:∀ a o,s.heap.get? a=some o→s'.heap.get? a=some o)(hos:s'.os=s.os)(hb:AllBare s'.gens)(hg:∀ (k:Nat) x,s.gens[k]? = some x→s'.gens[k]? = some x):Stp cx W ρ H s ρ H s':=by
 have K:Kp H.n ρ s.heap H.n ρ s'.heap:=⟨Nat.le_refl _,fun ι ι=>rfl,fun a o e ι=>hk a o e⟩
 refine ⟨⟨fun b o e=>hk b o (I.keep b o e),hos.trans I.os,hb,fun i hi => ?_,I.inj,I.low,I.st,I.nsys⟩,Nat.le_refl _,fun ι ι=>rfl,fun i h1 h2=>absurd h2 (Nat.not_lt.mpr h1),fun a o e ι ι=>hk a o e,hg⟩
 obtain ⟨ob,e,_⟩:=(I.objs i hi).some
 exact (I.objs i hi).mono K ((hk _ _ e).trans e.symm)
structure Made (cx:Cx) (G:GP) (A:Around) (ρ:Nat→Addr) (H:Hp) (s:Shared) (a:Addr) (s':Shared):Prop where
 ok:GOk cx G
 lv:LvA cx G ρ H s'
 at_:GnAt cx G A a s.gens.size G.all.length s'
 stp:Stp cx NoW ρ H s ρ H s'
 keep:∀ b o,s.heap.get? b=some o→s'.heap.get? b=some o
 na:s.heap.get? a=none
theorem gen_make(P:PeOk pe cx){f:Addr}(hf:pe.gen f)(hh:A.handled=none)(hroom:A.depth<recursionLimit)(I:Inv cx ρ H s){v1:Value}{i:Nat}{ids:List Nat}{lv:Nat→List V}(hlt:i<H.n)(hi:H.f i = .list (ids.map .ref))(hlv:∀ j∈ids,H.f j = .list (lv j))(hsm:∀ j∈ids,(lv j).length≤lim)
  {Q:Value→Shared→Prop} {E:Value→Shared→Prop} (hQ:∀ G a s',G.old=(fun b=>∃ o,s.heap.get? b=some o)→G.i=i→G.ids=ids→G.lv=lv→Made cx G A ρ H s a s'→Q (.ref a) s'):codeAny cx.M A (.call (.ref f) ⟨[v1,.ref (ρ i)],[]⟩) (fun r s'=>match r with | .ok (.ret v)=>Q v s' | .ok _=>False | .error e=>E e s') s:=by
 obtain ⟨fd,GO⟩:=P.gen hf
 obtain ⟨p1,p2,p3,p4,p5,p6,p7,p8,p9,p10,hbody⟩:=GO.body
 obtain ⟨o,ho,hd⟩:=GO.obj
 refine codeAny_call_generator hroom (I.keep _ _ ho) hd GO.cor GO.gen hbody (GO.code.keeps I.keep) (GO.bind I.keep ?_)
 refine wpAny_newFunctionEnv (fun x hx => ?_) (fun x hx => ?_) (fun h' hn hs => ?_) GO.kind
 ·rw[GO.names] at hx
  revert x; decide
 ·rw[GO.names]
  rcases List.mem_cons.mp hx with rfl | hx
  ·rfl
  rcases List.mem_cons.mp hx with rfl | hx
  ·rfl
  ·rw[List.mem_singleton.mp hx]; rfl
 ·have hsz:h'.objs.size=s.heap.objs.size+1:=by rw[hs.1,Heap.size_push]
  have keep':∀ b o,s.heap.get? b=some o→h'.get? b=some o:=fun b o e=>hs.extBut b o (Nat.ne_of_lt (Heap.lt_size e)) (Heap.get?_push_of_some _ e)
  refine ⟨P.noLimit.keeps fun b o e=>keep' b o (I.keep b o e),hQ ⟨fun b=>∃ o,s.heap.get? b=some o,newEnv fd.scope s.heap.objs.size fd.globals fd.closure (fd.qualname++".<locals>.") (some f) fd.code none fd.builtins,i,ρ i,ids,ρ,lv⟩ _ _ rfl rfl rfl rfl ?_⟩
  have keep2:∀ (ob:Obj) b o,s.heap.get? b=some o→(h'.push ob).get? b=some o:=fun ob b o e=>Heap.get?_push_of_some _ (keep' b o e)
  have hgx:∀ (c:Code) (k:Nat) x,s.gens[k]? = some x→(s.gens.push (.fresh c))[k]? = some x:=fun c k x e=>by
   rw[Array.getElem?_push]
   have:=(Array.getElem?_eq_some_iff.mp e).1
   rw[if_neg (Nat.ne_of_lt this)]; exact e
  have ok:GOk cx ⟨fun b=>∃ o,s.heap.get? b=some o,newEnv fd.scope s.heap.objs.size fd.globals fd.closure (fd.qualname++".<locals>.") (some f) fd.code none fd.builtins,i,ρ i,ids,ρ,lv⟩ :=
   ⟨fun b o e=>⟨o,I.keep b o e⟩,fun ⟨o,e⟩=>by
    have e:s.heap.get? s.heap.objs.size=some o:=e
    rw[get?_size] at e; exact noS e,GO.kind,GO.cor,by show fd.scope.names.lookup _=_; rw[GO.names]; rfl,by show fd.scope.names.lookup _=_; rw[GO.names]; rfl,by show fd.scope.names.lookup _=_; rw[GO.names]; rfl,hsm⟩
  obtain ⟨vs,k,_,rl⟩:=I.list hlt hi
  have hlt':∀ j∈ids,j<H.n:=fun j hj=>by
   obtain ⟨q,hq,e⟩:=List.getElem_of_mem (List.mem_map_of_mem (f:=V.ref) hj)
   obtain ⟨u,_,ru⟩:=rl.get q (List.getElem?_eq_getElem hq)
   rw[e] at ru
   exact ru.inv_ref.1
  have S:=Stp.grownG NoW I (s':={ s with heap:=h'.push { cls := .type "generator",data := .fields #[.int s.gens.size 0,.str fd.name (s.toks+3),.str fd.qualname (s.toks+3+1)] },gens:=s.gens.push (.fresh (.func (gBody p1 p2 p3 p4 p5 p6 p7 p8 p9 p10) (newEnv fd.scope s.heap.objs.size fd.globals fd.closure (fd.qualname++".<locals>.") (some f) fd.code none fd.builtins))),toks:=s.toks+3+1+1 }) (keep2 _) rfl (I.bare.push rfl) (hgx _)
  have lva:LvA cx ⟨fun b=>∃ o,s.heap.get? b=some o,newEnv fd.scope s.heap.objs.size fd.globals fd.closure (fd.qualname++".<locals>.") (some f) fd.code none fd.builtins,i,ρ i,ids,ρ,lv⟩ ρ H _ :=
   ⟨S.inv,fun k hk=>Nat.ne_of_lt (I.lt hk),hlt,rfl,hi,fun j hj=>⟨hlt' j hj,rfl,hlv j hj⟩,fun b ⟨o,e⟩=>⟨o,keep2 _ b o e⟩⟩
  obtain ⟨oC,_,_,eC,_⟩:=id hn
  refine ⟨ok,lva,⟨⟨_,_,_,Heap.get?_push_size _ rfl,rfl,rfl,rfl⟩,?_,⟨oC,Heap.get?_push_of_some _ eC,nf_ns hn oC eC⟩,_,SG cx _,Array.getElem?_push_size,⟨⟨ρ,H,lva⟩,_,hn.push _,rfl,rfl⟩,fun t t' ht b=>ht.sb b,fun t ht=>⟨rfl,seg_gen ok hh ht⟩⟩,S,keep2 _,?_⟩
  ·show h'.objs.size≠s.heap.objs.size
   rw[hsz]; exact Nat.succ_ne_self _
  ·show s.heap.get? h'.objs.size=none
   rw[hsz]
   cases e:s.heap.get? (s.heap.objs.size+1) with
   | none=>rfl
   | some o=>exact absurd (Heap.lt_size e) (Nat.not_lt.mpr (Nat.le_succ _))
end
end
section
section
variable {pe:Pe} {cx:Cx} {n:Nat} {sc:Sc} {loc loc':Loc} {H H1 H2 H3:Hp} {ρ:Nat→Addr} {s:Shared} {A:Around} {target:Expr} {body:List Stmt} {fl:Fl}
theorem gen_cal(P:PeOk pe cx){f:Addr}(hf:pe.gen f){fv:Value}{first:List Value}{w:V}(I:Inv cx ρ H s)(c:Cal H.n ρ s.heap fv first (.mt f w)):
  Kpr cx fv s∧∀ {vs:List Value} {Q:Value→Shared→Prop} {E},(∀ w',codeAny cx.M A (.call (.ref f) ⟨w'::vs,[]⟩) (fun r s'=>match r with | .ok (.ret v)=>Q v s' | .ok _=>False | .error e=>E e s') s)→wpAny cx.M A (call fv (first++vs) []) Q E s:=by
 obtain ⟨fd,GO⟩:=P.gen hf
 obtain ⟨o,ho,hd⟩:=GO.obj
 cases c with
 | mt _ =>
  refine ⟨fun {A Q E} hQ => ?_,fun h=>wpAny_call (h _)⟩
  unfold keeperOf
  refine wpAny_bind (wpAny_load (I.keep _ _ ho) ?_)
  rw[hd]; exact wpAny_pure (hQ _)
 | obj rf =>
  obtain ⟨a,w',rfl,e,_⟩:=rf.inv_mt
  refine ⟨fun {A Q E} hQ => ?_,fun h => ?_⟩
  ·unfold keeperOf
   refine wpAny_bind (wpAny_load e (wpAny_bind (wpAny_load (I.keep _ _ ho) ?_)))
   exact wpAny_pure (hQ _)
  ·exact wpAny_call (method_code e (h w'))
theorem x_ForG(P:PeOk pe cx){o e:Expr}{name:Str}{ap cp pos:Pos}{u w:V}{f:Addr}{i:Nat}{ids:List Nat}{lv:Nat→List V}(hp:ap.endLine=cp.line)(hs:isSuper o=false)(h1:GE cx n sc loc o H u H1)(hg:attr pe H1 name u=some (.mt f w))(hgen:pe.gen f)(h2:GL cx n sc loc [e] H1 [.ref i] H2)
  (hi:H2.f i = .list (ids.map .ref)) (hlv:∀ j∈ids,H2.f j = .list (lv j)) (hsm:∀ j∈ids,(lv j).length≤lim) (h3:GForG cx n sc target body (i::ids) H2 (ids.reverse.flatMap lv) loc H2 fl loc' H3) :
  GX cx (n+1) sc (.For target (.Call (.Attribute o name ap) [e] [] cp) body [] pos) loc H fl loc' H3:=fun {A env ρ s Q E} C hQ=>by
 refine wpAny_For ?_ (notSet_folded rfl)
 rw[arm_eval_Call,base_of hs]
 refine wpAny_bind (h1 C.low fun u' s1 ρ1 S1 r1=>wpAny_bind (wpAny_standAt ?_))
 unfold methodCall
 rw[few_of (h2.1 cp env) (k_nil (cx:=cx) (n:=n) (sc:=sc) (loc:=loc) (H:=H) |>.1 cp env).1 (by show 1≤25; decide)]
 refine wpAny_bind (wpAny_holding ?_)
 show wpAny _ _ (getMethod u' name _) _ _ _
 refine s_getMethod P hg S1.inv r1 fun fv first s2 S2 c => ?_
 dsimp only
 rw[pos_of hp]
 have C2:=(C.low.step S1).step S2
 refine wpAny_bind (wpAny_pure (s_callWith (evalArgs_sound h2 k_nil C2 fun a s3 ρ3 S3 ra rk => ?_)))
 have c3:=c.step C2.inv S3
 obtain ⟨kp,go⟩:=gen_cal (A:=A) P hgen S3.inv c3
 refine ⟨kp,?_⟩
 obtain ⟨pos,kw⟩:=a
 have hkw:kw=[]:=List.map_eq_nil_iff.mp rk.names
 subst hkw
 cases ra with | cons r rn =>
 cases rn
 obtain ⟨hlt,rfl⟩:=r.inv_ref
 have C3:=C2.step S3
 refine go fun w'=>gen_make P hgen C3.ar.handled C3.ar.room S3.inv hlt hi hlv hsm fun G a s4 hold hGi hids hGl M => ?_
 refine wpAny_pyIter_gen M.at_.obj ?_
 have C4:=C3.step M.stp
 have hall:G.all=ids.reverse.flatMap lv:=by show G.ids.reverse.flatMap G.lv=_; rw[hids,hGl]
 have al:∀ b,G.old b↔∃ o,s3.heap.get? b=some o:=fun b=>by rw[hold]
 refine h3 (by rw[hGi,hids]) (fun ι ι=>rfl) C4 M.ok M.lv (hall▸M.at_) ⟨[],hall⟩ ⟨fun b hb=>(al b).mpr (wr_al C3.vars b hb),fun q => ?_⟩ fun f s5 ρ5 S5 X5 rf => ?_
 ·obtain ⟨o,e⟩:=(al a).mp q
  rw[M.na] at e; exact noS e
 ·have S35:Stp cx (Wr env) ρ3 H2 s3 ρ5 H3 s5:=⟨S5.inv,S5.le,S5.agr,fun k h1 h2 => ?_,fun b ob e hm hw=>S5.ext b ob ((al b).mpr ⟨ob,e⟩) (M.keep b ob e) hm hw,fun k y e=>S5.gx k y (Nat.ne_of_lt (Array.getElem?_eq_some_iff.mp e).1) (M.stp.gx k y e)⟩
  ·refine hQ f s5 ρ5 ?_ X5 rf
   have S13:=(S1.trans S2).trans S3
   exact (S13.weaken fun ι f=>f.elim).transW S35 fun k h1 h2 w=>C3.vars.notW S35 k h1 h2 w
  ·cases e:s3.heap.get? (ρ5 k) with
   | none=>rfl
   | some ob=>exact absurd ((al _).mpr ⟨ob,e⟩) (S5.fresh k h1 h2)
end
end
section
section
variable {pe:Pe} {cx:Cx} {n:Nat} {sc:Sc} {loc loc1 loc2 loc':Loc} {H H' H1 H2:Hp} {x:V} {xs:List V} {target:Expr} {body:List Stmt} {fl fl':Fl}
noncomputable def GForL(cx:Cx)(n:Nat)(sc:Sc)(target:Expr)(body:List Stmt)(xs:List V)(loc:Loc)(H:Hp)(fl:Fl)(loc':Loc)(H':Hp):Prop :=
 ∀ {A env ρ s b vs k a} {ys:List V} {R:Result→Shared→Prop},cx.g.IsList b vs→(∀ n ρ h,RepL n ρ h vs.toList ys)→ys.drop k=xs→Cn cx n sc loc H A env ρ s→s.heap.IsListIter a b k→Out cx env H.n ρ s.heap a →
  (∀ f s' ρ',Stp cx (WL env [a]) ρ H s ρ' H' s'→Vars cx env H'.n ρ' s'.heap loc'→RepF H'.n ρ' s'.heap f fl→R (.ok f) s')→codeAny cx.M A (.forLoop target (.ref a) body [] env) R s
theorem it_nf{h:Heap}{a b:Addr}{k:Nat}(it:h.IsListIter a b k):∃ o,h.get? a=some o∧¬ Fz o:=by
 obtain ⟨o,h1,h2,h3⟩:=it
 exact ⟨o,h1,nf_cls h1 h2 (by decide+kernel) o h1⟩
theorem gl_at{ρ:Nat→Addr}{s:Shared}{b:Addr}{vs:Array Value}(I:Inv cx ρ H s)(hL:cx.g.IsList b vs):s.heap.IsList b vs:=hL.at fun o e=>I.keep _ o e
theorem fl_nil:GForL cx n sc target body [] loc H .next loc H:=fun {A env ρ s b vs k a ys R} hL q hd C t O hR =>
 for_unroll (wpAny_pyNext_list_end C.ar.handled t (gl_at C.inv hL) (by
  have:=drop_nil hd
  rw[List.getElem?_eq_none_iff] at this
  rw[Array.getElem?_eq_none_iff,size_of (q H.n ρ s.heap)]; exact this) fun h' hs=>by
  have S2:Stp cx (· = a) ρ H s ρ H { s with heap:=h' }:=Stp.but _ C.inv rfl O.ap O.low O.nf hs rfl rfl
  exact hR _ _ _ S2.one (C.vars.same C.inv S2 O) .next)
theorem fl_cons(hb:bindT sc H target x loc=some loc1)(hx:GXs cx n sc body loc1 H fl loc2 H1)(hg:goesOn fl=true)(h:GForL cx n sc target body xs loc2 H1 fl' loc' H2):GForL cx n sc target body (x::xs) loc H fl' loc' H2:=fun {A env ρ s b vs k a ys R} hL q hd C t O hR=>by
 obtain ⟨u,hu,ru⟩:=(q H.n ρ s.heap).get k (drop_cons hd).1
 refine for_unroll (wpAny_pyNext_list_item t (gl_at C.inv hL) (Array.getElem?_toList▸hu) fun h' it' hs => ?_)
 have S2:Stp cx (· = a) ρ H s ρ H { s with heap:=h' }:=Stp.but _ C.inv rfl O.ap O.low O.nf hs.extBut rfl rfl
 have X2:=C.vars.same C.inv S2 O
 have O2:Out cx env H.n ρ h' a:=⟨it_nf it',O.ap,O.nw,O.low⟩
 have r2:Rep H.n ρ h' u x:=ru.mono (S2.kp C.inv fun b o e hz w=>O.nf o (w▸e) hz)
 obtain ⟨o,ho,hc,hd'⟩:=id it'
 refine own_skip ho hc hd' (by decide) (bindT_sound (WrOk.wr sc env) C.ar.handled C.en hb S2.inv X2 r2 fun s3 S3 ι X3 => ?_)
 have O3:=O2.step S3 O2.nw
 have t3:s3.heap.IsListIter a b (k+1):=⟨o,S3.ext a o ho O2.ap O2.nw,hc,hd'⟩
 refine hx (C.to S3.inv X3) fun f s4 ρ4 S4 X4 rf => ?_
 have S14:=(S2.one.seqL X2 O2.has S3.left).seqL X3 O3.has S4.left
 have O4:=O3.step S4 O3.nw
 have t4:s4.heap.IsListIter a b (k+1):=⟨o,S4.ext a o (S3.ext a o ho O2.ap O2.nw) O3.ap O3.nw,hc,hd'⟩
 have go:=h hL q (drop_cons hd).2.1 (C.to S4.inv X4) t4 O4 fun f s' ρ' S5 X5 r5=>hR f s' ρ' (S14.seqL X4 O4.has S5) X5 r5
 cases rf with
 | next=>exact go
 | cont=>exact go
 | _=>exact noB hg
theorem fl_forget(hl:∀ y v,loc1.lookup y=some v→loc.lookup y=some v)(h:GForL cx n sc target body xs loc1 H fl loc' H2):GForL cx n sc target body xs loc H fl loc' H2:=fun hL q hd C t O hR=>h hL q hd (C.to C.inv (C.vars.congr hl)) t O hR
theorem x_ForL(P:PeOk pe cx){iter:Expr}{pos:Pos}{b:Addr}{is:List Int}(hs:isSetE iter=false)(h1:GE cx n sc loc iter H (.fn b) H1)(hi:pe.lst b=some is)(h2:GForL cx n sc target body (is.map .int) loc H1 fl loc' H2):GX cx (n+1) sc (.For target iter body [] pos) loc H fl loc' H2:=fun {A env ρ s Q E} C hQ=>by
 refine wpAny_For (h1 C.low fun u s1 ρ1 S1 r1 => ?_) (notSet_folded hs)
 have C1:=C.low.step S1
 cases r1.inv_fn
 obtain ⟨_,vs,hL,rv⟩:=P.lst hi
 have ha:s1.heap.get? s1.heap.objs.size=none:=get?_size _
 refine wpAny_pyIter_list (gl_at S1.inv hL) ?_
 have S2:Stp cx NoW ρ1 H1 s1 ρ1 H1 { s1 with heap:=s1.heap.push { cls := .type "list_iterator",data := .fields #[.ref b,rawInt 0] } }:=Stp.grown _ S1.inv (fun ι ι e=>Heap.get?_push_of_some _ e) rfl rfl
 have t2:Heap.IsListIter (s1.heap.push { cls := .type "list_iterator",data := .fields #[.ref b,rawInt 0] }) s1.heap.objs.size b 0:=⟨_,Heap.get?_push_size _ rfl,rfl,rfl⟩
 refine h2 hL rv List.drop_zero (C1.step S2) t2 (Out.fresh S1.inv C1.vars ha (it_nf t2)) fun f s3 ρ3 S3 X3 rf=>hQ f s3 ρ3 ?_ X3 rf
 have S23:Stp cx (fun c=>Wr env c∨c=s1.heap.objs.size) ρ1 H1 s1 ρ3 H2 s3:=(S2.weaken fun ι f=>f.elim).transW (S3.weaken fun b q=>q.imp id List.mem_singleton.mp) fun i h1 h2 w=>by
  have hf:=S3.fresh i h1 h2
  rcases w with w | w
  ·exact (C1.step S2).vars.notW S3 i h1 h2 w
  ·obtain ⟨o,eo,_⟩:=it_nf t2
   rw[w] at hf; exact noS (hf.symm.trans eo)
 exact (S1.weaken fun ι f=>f.elim).transW (S23.dropA ha) fun i h1 h2 w=>C1.vars.notW S23 i h1 h2 w
end
end
section
section
variable {pe:Pe} {cx:Cx} {n:Nat} {sc:Sc} {loc loc':Loc} {H H' H1 H2 H3 H4 H5:Hp}
theorem t_NeL(P:PeOk pe cx){a b:Expr}{p:Pos}{l:Addr}{is:List Int}{j:Nat}(hs:isSetE b=false)(h1:GE cx n sc loc a H (.fn l) H1)(h2:GE cx n sc loc b H1 (.ref j) H2)(hj:H2.f j = .list [])(hl:pe.lst l=some is):GT cx (n+1) sc loc (.Compare a [.NotEq] [b] p) H (!is.isEmpty) H2:=fun {A env ρ s Q E} C hQ =>
 wpAny_isTrue_Compare1 (h1 C.low fun ι ι ι S1 r1=>h2 (C.low.step S1) fun _ s2 ρ2 S2 r2=>by
  cases r1.inv_fn
  obtain ⟨ib,rfl⟩:=r2.inv_ref
  obtain ⟨_,vs,hL,rv⟩:=P.lst hl
  have e:=gl_at S2.inv hL
  obtain ⟨ws,k',e',q'⟩:=S2.inv.list ib hj
  have hu':A.units<cLine:=Nat.lt_of_le_of_lt (Nat.le_add_right _ 20) C.units
  have hz':ws.size=0:=size_of q'
  have hz:vs.size=is.length:=(size_of (rv H.n ρ s.heap)).trans (List.length_map ..)
  have go:∀ r,RcNeAt A s2 (.ref l) (.ref (ρ2 j)) (!r)→is.isEmpty=r→wpAny cx.M A (compareOp .NotEq (.ref l) (.ref (ρ2 j))) (fun v s'=>wpAny cx.M A (truthy v) Q E s') E s2:=fun r g e=>g _ _ _ _ (wpAny_truthy_bool (e▸hQ s2 _ (S1.trans S2)))
  by_cases h0:vs.size=0
  ·have f:∀ (j:Nat) (h1:j<vs.size) (h2:j<ws.size),EqAt A.in1 s2 vs[j] ws[j] ((fun ι=>false) j):=fun j h=>absurd h (by rw[h0]; exact Nat.not_lt_zero j)
   exact go _ (RcNeAt.lists e (isList_of e') (h0.trans hz'.symm) hu' f) (by rw[isEmpty_len,← hz,h0]; rfl)
  ·have hne:(vs.size != ws.size)=true:=bne_iff_ne.mpr (by rw[hz']; exact h0)
   exact go false (RcNeAt.lists_lengths e (isList_of e') hne hu') ((isEmpty_len _).trans (beq_false_of_ne (hz▸h0)))) (noMarks hs)
theorem esc_call(P:PeOk pe cx){x c z v:Str}{k2 k3:Nat}{p5 p6 p7 p8 p9:Pos}{A:Around}{env:Env}{s:Shared}{ρ:Nat→Addr}{Q:Value→Shared→Prop}{E}(hx:look pe sc loc x=some (.str v))(hp:p6.endLine=p9.line)(hcz:(c==z)=false)(hl:v.length+(v.length+1)*z.length≤lim)
  (C:Cn cx n sc loc H A env ρ s) (h0:s.toks≠0) (hQ:∀ t k,Q (.str (Txt.replace v c z) t) { s with toks:=k }) :
  wpAny cx.M A (eval (.Call (.Attribute (.Name x p5) "replace" p6) [.Constant (.str c) k2 p7,.Constant (.str z) k3 p8] [] p9) env) Q E s:=by
 have h2:GL cx 1 sc loc [.Constant (.str c) k2 p7,.Constant (.str z) k3 p8] H [.str c,.str z] H:=l_cons rfl (e_Const rfl) (l_cons rfl (e_Const rfl) l_nil)
 have go:∀ fv:Value,Kpr cx fv { s with toks:=s.toks+1+1 }→(∀ first,wpAny cx.M A (call fv (first++[.str c s.toks,.str z (s.toks+1)]) []) Q E { s with toks:=s.toks+1+1 }→wpAny cx.M A (callWith p9 fv first (backTo p9 (starEach [.Constant (.str c) k2 p7,.Constant (.str z) k3 p8] env)) (backToKw p9 (keywordEach [] env))) Q E s):=fun fv kp first hc=>by
  refine s_callWith (evalArgs_kw2 rfl ?_ rfl)
  rw[starEach_plain (e := .Constant (.str c) k2 p7) rfl]
  refine Calls.spliced_cons ?_
  rw[eval_Constant]
  refine wpAny_mkText ?_
  rw[starEach_plain (e := .Constant (.str z) k3 p8) rfl]
  refine Calls.spliced_cons ?_
  rw[eval_Constant]
  exact wpAny_mkText (Calls.spliced_nil (wpAny_evalAll_nil ⟨kp,hc⟩))
 have fw:=few_of (h2.1 p9 env) (k_nil (cx:=cx) (n:=1) (sc:=sc) (loc:=loc) (H:=H) |>.1 p9 env).1 (k:=([.Constant (.str c) k2 p7,.Constant (.str z) k3 p8]:List Expr).length+([]:List Keyword).length) (by show 2≤25; decide)
 rw[arm_eval_Call,base_of rfl]
 refine wpAny_bind (s_Name P hx C.en C.inv C.vars fun u' ru'=>wpAny_bind (wpAny_standAt ?_))
 obtain ⟨t',rfl⟩:=ru'.inv_str
 generalize Expr.Name x p5=o
 unfold methodCall
 rw[fw]
 generalize backTo p9 (starEach [.Constant (.str c) k2 p7,.Constant (.str z) k3 p8] env)=as at go
 refine wpAny_bind ?_
 refine wpAny_holding ?_
 show wpAny _ _ (getMethod (.str v t') "replace" _) _ _ _
 with_reducible refine gm_str F.slot_str_replace F.type_str_replace ?_
 dsimp only
 rw[pos_of hp]
 have S3:Stp cx NoW ρ H s ρ H { s with toks:=s.toks+1+1 }:=Stp.toks _ C.inv
 exact wpAny_bind (wpAny_pure (go _ (kpr_of P S3.inv (.bm (p := .tReplace) (.str v t')) rfl) _ (SC.replace h0 (Nat.succ_ne_zero _) (Nat.ne_of_lt (Nat.lt_succ_self _)) hcz (show _≤16777216 from hl) fun t2 k=>hQ t2 k)))
theorem x_Esc(P:PeOk pe cx){x c z v:Str}{k1 k2 k3:Nat}{p1 p2 p3 p4 p5 p6 p7 p8 p9 p10 p11:Pos}(hx:look pe sc loc x=some (.str v))(ho:own sc x=true)(hp:p6.endLine=p9.line)(hcz:(c==z)=false)(hl:v.length+(v.length+1)*z.length≤lim)
  (e:(bif Txt.contains v c then setL loc x (.str (Txt.replace v c z)) else loc)=loc') :
  GX cx (n+1) sc (.If (.Compare (.Constant (.str c) k1 p1) [.In] [.Name x p2] p3) [.Assign [.Name x p4] (.Call (.Attribute (.Name x p5) "replace" p6) [.Constant (.str c) k2 p7,.Constant (.str z) k3 p8] [] p9) p10] [] p11) loc H .next loc' H:=fun {A env ρ s Q E} C hQ=>by
 subst e
 refine wpAny_If (wpAny_isTrue_Compare1 ?_ (noMarks rfl))
 rw[eval_Constant]
 refine wpAny_mkText ?_
 have S1:Stp cx NoW ρ H s ρ H { s with toks:=s.toks+1 }:=Stp.toks _ C.inv
 have C1:=C.step S1
 refine s_Name P hx C1.en C1.inv C1.vars fun u ru => ?_
 obtain ⟨t,rfl⟩:=ru.inv_str
 refine SB.contains (wpAny_truthy_bool ?_)
 cases hc:Txt.contains v c with
 | false =>
  rw[hc] at hQ
  exact wpAny_execs_nil (hQ _ _ _ S1.toW C1.vars .next)
 | true =>
  rw[hc] at hQ
  have hb:bindT sc H (.Name x p4) (.str (Txt.replace v c z)) loc=some (setL loc x (.str (Txt.replace v c z))):=if_pos ho
  have h3:GAs cx n sc [.Name x p4] (.str (Txt.replace v c z)) loc H (setL loc x (.str (Txt.replace v c z))) H:=as_one rfl (a_Bind hb)
  refine wpAny_execs_cons ?_
  rw[exec_Assign_arm]
  refine wpAny_bind (wpAny_standAt (wpAny_bind (wpAny_of_eq (swap_sole rfl) ?_)))
  rw[if_neg Bool.false_ne_true]
  refine wpAny_bind (esc_call P hx hp hcz hl C1 (Nat.succ_ne_zero _) fun t k => ?_)
  have S4:Stp cx NoW ρ H s ρ H { s with toks:=k }:=Stp.toks _ C.inv
  have C4:=C.low.step S4
  refine wpAny_bind (wpAny_of_eq (a:=none) rfl ?_)
  show wpAny cx.M A (do assignAll _ ((assignEach [.Name x p4] env).map (·.2)); pure Flow.next) _ _ _
  exact wpAny_bind (h3 C4 (.str _ _) fun s5 ρ5 S5 X5=>wpAny_pure (wpAny_execs_nil (hQ _ _ _ (Stp.seqW S4.toW C4.vars S5) X5 .next)))
end
end
section
noncomputable def Snd(cx:Cx)(n:Nat):Tk→Rs→Prop
 | .e sc loc e H,.v x H'=>GE cx n sc loc e H x H'
 | .t sc loc e H,.b b H'=>GT cx n sc loc e H b H'
 | .cp sc loc e H,.v x H'=>GE cx n sc loc e H x H'∧GC cx n sc loc e H x H'
 | .x sc st loc H,.f fl loc' H'=>GX cx n sc st loc H fl loc' H'
 | .xs sc body loc H,.f fl loc' H'=>GXs cx n sc body loc H fl loc' H'
 | .c f args kws H,.v x H'=>GCall cx n f args kws H x H'
 | .run f args kws H,.v x H'=>GRun cx n f args kws H x H'
 | .l sc loc es H,.l xs H'=>GL cx n sc loc es H xs H'
 | .kw sc loc ks H,.k xs H'=>GKw cx n sc loc ks H xs H'
 | .ifs sc loc es H,.b b H'=>GIf cx n sc loc es H b H'
 | .opt sc loc a H,.o l H'=>GO cx n sc loc a H l H'
 | .join sc loc es out H,.v (.str t) H'=>GJ cx n sc loc es out H t H'
 | .bool sc loc op es H,.v x H'=>GBo cx n sc loc op es H x H'
 | .test sc loc op es H,.b b H'=>GTs cx n sc loc op es H b H'
 | .asg sc t v loc H,.s loc' H'=>GA cx n sc t v loc H loc' H'
 | .asgs sc ts v loc H,.s loc' H'=>GAs cx n sc ts v loc H loc' H'
 | .for sc target body src H0 xs loc H,.f fl loc' H'=>GFor cx n sc target body src H0 xs loc H fl loc' H'
 | .forL sc target body xs loc H,.f fl loc' H'=>GForL cx n sc target body xs loc H fl loc' H'
 | .forG sc target body src H0 xs loc H,.f fl loc' H'=>GForG cx n sc target body src H0 xs loc H fl loc' H'
 | .cl sc em gens target ifs loc src H0 xs H,.l ys H'=>GCl cx n sc em gens target ifs loc src H0 xs H ys H'
 | .inn sc em gens loc H,.l ys H'=>GIn cx n sc em gens loc H ys H'
 | _,_=>True
structure Ev (pe:Pe) (n:Nat) (t:Tk) (r:Rs):Prop where
 go:∀ {cx:Cx},PeOk pe cx→Snd cx n t r
section
variable {pe:Pe}
theorem Ev.ev_Const{n sc loc H p v k j}(h:cst k=some v):Ev pe (n+1) (.e sc loc (.Constant k j p) H) (.v v H):=⟨fun ι=>e_Const h⟩
theorem Ev.ev_Name{n sc loc H p v x}(h:look pe sc loc x=some v):Ev pe (n+1) (.e sc loc (.Name x p) H) (.v v H):=⟨fun P=>e_Name P h⟩
theorem Ev.ev_Bin{n sc loc H H1 H2 H3 p u w v a b op}(x0:Ev pe n (.e sc loc a H) (.v u H1))(x1:Ev pe n (.e sc loc b H1) (.v w H2))(h3:Bin H2 op u w v H3):Ev pe (n+1) (.e sc loc (.BinOp a op b p) H) (.v v H3):=⟨fun P=>e_Bin (x0.go P) (x1.go P) h3⟩
theorem Ev.ev_Neg{n sc loc H H1 p a}{k:Int}(x0:Ev pe n (.e sc loc a H) (.v (.int k) H1)):Ev pe (n+1) (.e sc loc (.UnaryOp .USub a p) H) (.v (.int (-k)) H1):=⟨fun P=>e_Neg (x0.go P)⟩
theorem Ev.ev_If{n sc loc H H1 H2 p v c a b t}(x0:Ev pe n (.t sc loc c H) (.b t H1))(x1:Ev pe n (.e sc loc (bif t then a else b) H1) (.v v H2)):Ev pe (n+1) (.e sc loc (.IfExp c a b p) H) (.v v H2):=⟨fun P=>e_If (x0.go P) (x1.go P)⟩
theorem Ev.ev_Cmp{n sc loc H H1 H2 p u w a b op t}(hs:isSetE b=false)(x1:Ev pe n (.e sc loc a H) (.v u H1))(x2:Ev pe n (.e sc loc b H1) (.v w H2))(h3:Cmp H2 op u w t):Ev pe (n+1) (.e sc loc (.Compare a [op] [b] p) H) (.v (.bool t) H2):=⟨fun P=>e_Cmp P hs (x1.go P) (x2.go P) h3⟩
theorem Ev.ev_List{n sc loc H H1 H2 p es xs}(x0:Ev pe n (.l sc loc es H) (.l xs H1))(hl:xs.length≤lim)(e:H1.alloc (.list xs)=H2):Ev pe (n+1) (.e sc loc (.List es p) H) (.v (.ref H1.n) H2):=⟨fun P=>e_List (x0.go P) hl e⟩
theorem Ev.ev_Tuple{n sc loc H H1 p es xs j}(x0:Ev pe n (.l sc loc es H) (.l xs H1))(hl:xs.length≤lim):Ev pe (n+1) (.e sc loc (.Tuple es j p) H) (.v (.tup xs) H1):=⟨fun P=>e_Tuple (x0.go P) hl⟩
theorem Ev.ev_Dict0{n sc loc H H1 p}(e:H.alloc (.dict [])=H1):Ev pe (n+1) (.e sc loc (.Dict [] [] p) H) (.v (.ref H.n) H1):=⟨fun ι=>e_Dict0 e⟩
theorem Ev.ev_Set{n sc loc H H1 p x y px py ps s d kvs}(h1:look pe sc loc x=some (.str s))(h2:look pe sc loc y=some (.ref d))(h3:H.f d = .dict kvs)(h4:kvs.length≤4)(e:H.alloc (.set (addAll [s] (kvs.map (·.1))))=H1):Ev pe (n+1) (.e sc loc (.Set [.Name x px,.Starred (.Name y py) ps] 0 p) H) (.v (.ref H.n) H1):=⟨fun P=>e_Set P h1 h2 h3 h4 e⟩
theorem Ev.ev_Idx{n sc loc H H1 H2 p u w v o i}(x0:isSlice i=false)(x1:Ev pe n (.e sc loc o H) (.v u H1))(x2:Ev pe n (.e sc loc i H1) (.v w H2))(h3:index H2 u w=some v):Ev pe (n+1) (.e sc loc (.Subscript o i p) H) (.v v H2):=⟨fun P=>e_Idx P (x1.go P) (x2.go P) h3⟩
theorem Ev.ev_Slice{n sc loc H H1 H2 H3 H4 H5 p u v o x y z l hi st ps}(x0:Ev pe n (.e sc loc o H) (.v u H1))(x1:Ev pe n (.opt sc loc x H1) (.o l H2))(x2:Ev pe n (.opt sc loc y H2) (.o hi H3))(x3:Ev pe n (.opt sc loc z H3) (.o st H4))(h5:Slc pe H4 u l hi st v H5):Ev pe (n+1) (.e sc loc (.Subscript o (.Slice x y z ps) p) H) (.v v H5):=⟨fun P=>e_Slice P (x0.go P) (x1.go P) (x2.go P) (x3.go P) h5⟩
theorem Ev.ev_Attr{n sc loc H H1 p u v o name}(hs:isSuper o=false)(x1:Ev pe n (.e sc loc o H) (.v u H1))(h2:fld pe H1 name u=some v)(x3:keepable v=true):Ev pe (n+1) (.e sc loc (.Attribute o name p) H) (.v v H1):=⟨fun P=>e_Attr P hs (x1.go P) h2⟩
theorem Ev.ev_AttrL{n sc loc H H1 p o}{i:Nat}{xs:List V}(hs:isSuper o=false)(x1:Ev pe n (.e sc loc o H) (.v (.ref i) H1))(h2:H1.f i = .list xs):Ev pe (n+1) (.e sc loc (.Attribute o "append" p) H) (.v (.bm .lAppend (.ref i)) H1):=⟨fun P=>e_AttrL hs (x1.go P) h2⟩
theorem Ev.ev_CallA{n sc loc H H1 H2 H3 H4 p u v o name ap args kws g xs ks}(hp:ap.endLine=p.line)(hs:isSuper o=false)(hl:args.length+kws.length≤25)(x3:Ev pe n (.e sc loc o H) (.v u H1))(hg:attr pe H1 name u=some g)(hc:callable pe g=true)(x6:Ev pe n (.l sc loc args H1) (.l xs H2))(x7:Ev pe n (.kw sc loc kws H2) (.k ks H3))(x8:Ev pe n (.c g xs ks H3) (.v v H4)):Ev pe (n+1) (.e sc loc (.Call (.Attribute o name ap) args kws p) H) (.v v H4):=⟨fun P=>e_CallA P hp hs hl (x3.go P) hg hc (x6.go P) (x7.go P) (x8.go P)⟩
theorem Ev.ev_CallN{n sc loc H H2 H3 H4 p v f fp args kws g xs ks}(hg:look pe sc loc f=some g)(hc:callable pe g=true)(x2:Ev pe n (.l sc loc args H) (.l xs H2))(x3:Ev pe n (.kw sc loc kws H2) (.k ks H3))(x4:Ev pe n (.c g xs ks H3) (.v v H4)):Ev pe (n+1) (.e sc loc (.Call (.Name f fp) args kws p) H) (.v v H4):=⟨fun P=>e_CallN P hg hc (x2.go P) (x3.go P) (x4.go P)⟩
theorem Ev.ev_NsMap{n sc loc H H1 p fp mp ap ip l}(h1:ap.endLine=ip.line)(h2:sc.lookup ("list":Str)=some .globalImplicit)(h3:sc.lookup nsMapName=some .globalImplicit)(h4:pe.nsm=some l)(e:H.alloc (.list (l.map fun p => .tup [.str p.1,.str p.2]))=H1):Ev pe (n+1) (.e sc loc (.Call (.Name "list" fp) [.Call (.Attribute (.Name nsMapName mp) "items" ap) [] [] ip] [] p) H) (.v (.ref H.n) H1):=⟨fun P=>e_NsMap P h1 h2 h3 h4 e⟩
theorem Ev.ev_SortK{n sc loc H H1 H2 p f fp x np p1 p2 k1 p3 k2 p4 p5 more lp kp i ks out a P q}(h1:p2.endLine=p5.line)(h2:isStar x=false)(h3:look pe sc loc f=some (.bf .sorted))(x3:Ev pe n (.e sc loc x H) (.v (.ref i) H1))(h5:H1.f i = .set ks)(h6:pe.lam sc=some (a,P,q))(h7:0<H1.n)(h8:H1.f 0 = .tab P q)(h9:SortsTo ks out)(h11:ks.all (fun k=>decide (k.length+2≤lim))=true)(e:H1.alloc (.list (out.map .str))=H2):Ev pe (n+1) (.e sc loc (.Call (.Name f fp) [x] [⟨some "key",.Lambda ⟨[],[⟨"n",none,np⟩],none,[],[],none,[]⟩ (.Call (.Attribute (.Name "n" p1) "split" p2) [.Constant (.str brace) k1 p3,.Constant (.int 1) k2 p4] [] p5) ⟨.function,[("n",.local)],false,false,more⟩ lp,kp⟩] p) H) (.v (.ref H1.n) H2):=⟨fun P=>e_SortK P h1 h2 h3 (x3.go P) h5 h6 h7 h8 h9 h11 e⟩
theorem Ev.ev_Joined{n sc loc H H1 p a b es t}(x0:Ev pe n (.join sc loc (a::b::es) Str.empty H) (.v (.str t) H1)):Ev pe (n+1) (.e sc loc (.JoinedStr (a::b::es) p) H) (.v (.str t) H1):=⟨fun P=>e_Joined (x0.go P)⟩
theorem Ev.ev_Fmt{n sc loc H H1 p a}{s:Str}(x0:Ev pe n (.e sc loc a H) (.v (.str s) H1))(hl:s.length≤lim):Ev pe (n+1) (.e sc loc (.FormattedValue a (-1) none p) H) (.v (.str s) H1):=⟨fun P=>e_Fmt (x0.go P) hl⟩
theorem Ev.ev_Comp{n sc loc e H v H1}(x0:Ev pe n (.cp sc loc e H) (.v v H1)):Ev pe n (.e sc loc e H) (.v v H1):=⟨fun P=>(x0.go P).1⟩
theorem Ev.ev_LC{n sc loc H H1 H2 H3 p elt target iter ifs gens scope it xs src ys}(hok:compOk pe sc scope=true)(hs:isSetE iter=false)(x2:Ev pe n (.e sc loc iter H) (.v it H1))(h2:items H1 it=some (xs,src))(hf:(tnames target).any (fun x=>((around scope.names loc).lookup x).isSome)=false)(x5:Ev pe n (.cl scope.names (.el elt) gens target ifs (around scope.names loc) src H1 xs H1) (.l ys H2))(hl:ys.length≤lim)(e:H2.alloc (.list ys)=H3):Ev pe (n+1) (.cp sc loc (.ListComp elt (⟨target,iter,ifs,0⟩::gens) scope p) H) (.v (.ref H2.n) H3):=⟨fun P=>c_LC P hok hs (x2.go P) h2 hf (x5.go P) hl e⟩
theorem Ev.ev_DC{n sc loc H H1 H2 H3 p k x target iter ifs gens scope it xs src ys}(hok:compOk pe sc scope=true)(hs:isSetE iter=false)(x2:Ev pe n (.e sc loc iter H) (.v it H1))(h2:items H1 it=some (xs,src))(hf:(tnames target).any (fun x=>((around scope.names loc).lookup x).isSome)=false)(x5:Ev pe n (.cl scope.names (.kv k x) gens target ifs (around scope.names loc) src H1 xs H1) (.l ys H2))(hl:ys.length≤lim)(e:H2.alloc (.dict (dictL ys))=H3):Ev pe (n+1) (.cp sc loc (.DictComp k x (⟨target,iter,ifs,0⟩::gens) scope p) H) (.v (.ref H2.n) H3):=⟨fun P=>c_DC P hok hs (x2.go P) h2 hf (x5.go P) hl e⟩
theorem Ev.cl_nil{n sc em gens target ifs loc src H0 H} : Ev pe n (.cl sc em gens target ifs loc src H0 [] H) (.l [] H):=⟨fun ι=>cl_end⟩
theorem Ev.cl_skip{n sc em gens target ifs loc loc' src H0 x xs H H1 H2 ys}(hb:bindT sc H target x loc=some loc')(x1:Ev pe n (.ifs sc loc' ifs H) (.b false H1))(st:stands H0 H1 src)(x3:Ev pe n (.cl sc em gens target ifs loc src H0 xs H1) (.l ys H2)):Ev pe n (.cl sc em gens target ifs loc src H0 (x::xs) H) (.l ys H2):=⟨fun P=>cl_skp hb (x1.go P) st (x3.go P)⟩
theorem Ev.cl_cons{n sc em gens target ifs loc loc' src H0 x xs H H1 H2 H3 ys zs}(hb:bindT sc H target x loc=some loc')(x1:Ev pe n (.ifs sc loc' ifs H) (.b true H1))(x2:Ev pe n (.inn sc em gens loc' H1) (.l ys H2))(st:stands H0 H2 src)(x4:Ev pe n (.cl sc em gens target ifs loc src H0 xs H2) (.l zs H3)):Ev pe n (.cl sc em gens target ifs loc src H0 (x::xs) H) (.l (ys++zs) H3):=⟨fun P=>cl_con hb (x1.go P) (x2.go P) st (x4.go P)⟩
theorem Ev.in_el{n sc loc H H1 v elt}(x0:Ev pe n (.e sc loc elt H) (.v v H1)):Ev pe n (.inn sc (.el elt) [] loc H) (.l [v] H1):=⟨fun P=>in_lst (x0.go P)⟩
theorem Ev.in_kv{n sc loc H H1 H2 v k x}{s:Str}(x0:Ev pe n (.e sc loc k H) (.v (.str s) H1))(x1:Ev pe n (.e sc loc x H1) (.v v H2)):Ev pe n (.inn sc (.kv k x) [] loc H) (.l [.tup [.str s,v]] H2):=⟨fun P=>in_dct (x0.go P) (x1.go P)⟩
theorem Ev.ifs_nil{n sc loc H} : Ev pe n (.ifs sc loc [] H) (.b true H):=⟨fun ι=>gi_nil⟩
theorem Ev.ifs_false{n sc loc H H1 c cs}(x0:Ev pe n (.t sc loc c H) (.b false H1)):Ev pe n (.ifs sc loc (c::cs) H) (.b false H1):=⟨fun P=>gi_false (x0.go P)⟩
theorem Ev.ifs_true{n sc loc H H1 H2 c cs b}(x0:Ev pe n (.t sc loc c H) (.b true H1))(x1:Ev pe n (.ifs sc loc cs H1) (.b b H2)):Ev pe n (.ifs sc loc (c::cs) H) (.b b H2):=⟨fun P=>gi_true (x0.go P) (x1.go P)⟩
theorem Ev.evL_nil{n sc loc H} : Ev pe n (.l sc loc [] H) (.l [] H):=⟨fun ι=>l_nil⟩
theorem Ev.evL_cons{n sc loc H H1 H2 u a es xs}(hs:isStar a=false)(x1:Ev pe n (.e sc loc a H) (.v u H1))(x2:Ev pe n (.l sc loc es H1) (.l xs H2)):Ev pe n (.l sc loc (a::es) H) (.l (u::xs) H2):=⟨fun P=>l_cons hs (x1.go P) (x2.go P)⟩
theorem Ev.evKw_nil{n sc loc H} : Ev pe n (.kw sc loc [] H) (.k [] H):=⟨fun ι=>k_nil⟩
theorem Ev.opt_none{n sc loc H} : Ev pe n (.opt sc loc none H) (.o none H):=⟨fun ι=>o_none⟩
theorem Ev.opt_some{n sc loc H H1 a}{k:Int}(x0:Ev pe n (.e sc loc a H) (.v (.int k) H1)):Ev pe n (.opt sc loc (some a) H) (.o (some k) H1):=⟨fun P=>o_some (x0.go P)⟩
theorem Ev.join_nil{n sc loc H out} : Ev pe n (.join sc loc [] out H) (.v (.str out) H):=⟨fun ι=>j_nil⟩
theorem Ev.join_cons{n sc loc H H1 H2 a es out t}{s:Str}(x0:Ev pe n (.e sc loc a H) (.v (.str s) H1))(hl:out.length+s.length≤lim)(x2:Ev pe n (.join sc loc es (out++s) H1) (.v (.str t) H2)):Ev pe n (.join sc loc (a::es) out H) (.v (.str t) H2):=⟨fun P=>j_cons (x0.go P) hl (x2.go P)⟩
theorem Ev.tv_Not{n sc loc H H1 p a t}(x0:Ev pe n (.t sc loc a H) (.b t H1)):Ev pe (n+1) (.t sc loc (.UnaryOp .Not a p) H) (.b (!t) H1):=⟨fun P=>t_Not (x0.go P)⟩
theorem Ev.tv_Bool{n sc loc H H1 p op vs t}(x0:Ev pe n (.test sc loc op vs H) (.b t H1)):Ev pe (n+1) (.t sc loc (.BoolOp op vs p) H) (.b t H1):=⟨fun P=>t_Bool (x0.go P)⟩
theorem Ev.tv_Cmp{n sc loc H H1 H2 p u w a b op t}(hs:isSetE b=false)(x1:Ev pe n (.e sc loc a H) (.v u H1))(x2:Ev pe n (.e sc loc b H1) (.v w H2))(h3:Cmp H2 op u w t):Ev pe (n+1) (.t sc loc (.Compare a [op] [b] p) H) (.b t H2):=⟨fun P=>t_Cmp P hs (x1.go P) (x2.go P) h3⟩
theorem Ev.tv_Gen{n sc loc H H1 a u t}(hp:plainT a=true)(x1:Ev pe n (.e sc loc a H) (.v u H1))(h2:truth H1 u=some t):Ev pe (n+1) (.t sc loc a H) (.b t H1):=⟨fun P=>t_Gen P hp (x1.go P) h2⟩
theorem Ev.test_nil{n sc loc H op} : Ev pe n (.test sc loc op [] H) (.b (op == .And) H):=⟨fun ι=>ts_nil⟩
theorem Ev.test_stop{n sc loc H H1 op a es t}(x0:Ev pe n (.t sc loc a H) (.b t H1))(h:(t==(op == .Or))=true):Ev pe n (.test sc loc op (a::es) H) (.b t H1):=⟨fun P=>ts_stop (x0.go P) h⟩
theorem Ev.test_go{n sc loc H H1 H2 op a es t b}(x0:Ev pe n (.t sc loc a H) (.b t H1))(h:(t==(op == .Or))=false)(x2:Ev pe n (.test sc loc op es H1) (.b b H2)):Ev pe n (.test sc loc op (a::es) H) (.b b H2):=⟨fun P=>ts_go (x0.go P) h (x2.go P)⟩
theorem Ev.xv_Expr{n sc loc H H1 p a u}(hc:isCompE a=false)(x1:Ev pe n (.e sc loc a H) (.v u H1)):Ev pe (n+1) (.x sc (.Expr a p) loc H) (.f .next loc H1):=⟨fun P=>x_Expr hc (x1.go P)⟩
theorem Ev.xv_Ret{n sc loc H H1 p a u}(x0:Ev pe n (.e sc loc a H) (.v u H1)):Ev pe (n+1) (.x sc (.Return (some a) p) loc H) (.f (.ret u) loc H1):=⟨fun P=>x_Ret (x0.go P)⟩
theorem Ev.xv_If{n sc loc loc' H H1 H2 p a x y t fl}(x0:Ev pe n (.t sc loc a H) (.b t H1))(x1:Ev pe n (.xs sc (bif t then x else y) loc H1) (.f fl loc' H2)):Ev pe (n+1) (.x sc (.If a x y p) loc H) (.f fl loc' H2):=⟨fun P=>x_If (x0.go P) (x1.go P)⟩
theorem Ev.xv_Asg{n sc loc loc' H H1 H2 p ts a u}(hc:isCompE a=false)(hw:(∀ env,swappedStores ts a env=pure none))(x2:Ev pe n (.e sc loc a H) (.v u H1))(x3:Ev pe n (.asgs sc ts u loc H1) (.s loc' H2)):Ev pe (n+1) (.x sc (.Assign ts a p) loc H) (.f .next loc' H2):=⟨fun P=>x_Asg hc hw (x2.go P) (x3.go P)⟩
theorem Ev.xv_AsgC{n sc loc loc' H H1 H2 p y yp a u}(_:isCompE a=true)(x1:Ev pe n (.cp sc loc a H) (.v u H1))(x2:Ev pe n (.asgs sc [.Name y yp] u loc H1) (.s loc' H2)):Ev pe (n+1) (.x sc (.Assign [.Name y yp] a p) loc H) (.f .next loc' H2):=⟨fun P=>x_AsgC (x1.go P) (x2.go P)⟩
theorem Ev.asgs_one{n sc loc loc' H H1 a u}(hs:isStar a=false)(x1:Ev pe n (.asg sc a u loc H) (.s loc' H1)):Ev pe n (.asgs sc [a] u loc H) (.s loc' H1):=⟨fun P=>as_one hs (x1.go P)⟩
theorem Ev.asg_Bind{n sc loc loc' H u t}(h:bindT sc H t u loc=some loc'):Ev pe n (.asg sc t u loc H) (.s loc' H):=⟨fun ι=>a_Bind h⟩
theorem Ev.asg_Attr{n sc loc H H1 H2 p o w u name d}(x0:Ev pe n (.e sc loc o H) (.v w H1))(h2:instOf pe H1 name w=some d)(h3:putN H1 d name u (H1.f d)=some H2):Ev pe n (.asg sc (.Attribute o name p) u loc H) (.s loc H2):=⟨fun P=>a_Attr P (x0.go P) h2 h3⟩
theorem Ev.asg_Sub{n sc loc H H1 H2 H3 p o i u d k}(x0:Ev pe n (.e sc loc o H) (.v (.ref d) H1))(x1:Ev pe n (.e sc loc i H1) (.v (.str k) H2))(h3:putD H2 d k u (H2.f d)=some H3):Ev pe n (.asg sc (.Subscript o i p) u loc H) (.s loc H3):=⟨fun P=>a_Sub (x0.go P) (x1.go P) h3⟩
theorem Ev.xv_Aug{n sc loc H H1 H2 p x px op old a u v}(ho:own sc x=true)(h0:look pe sc loc x=some old)(ha:augOk old=true)(x3:Ev pe n (.e sc loc a H) (.v u H1))(h2:Bin H1 op old u v H2):Ev pe (n+1) (.x sc (.AugAssign (.Name x px) op a p) loc H) (.f .next (setL loc x v) H2):=⟨fun P=>x_Aug P ho h0 ha (x3.go P) h2⟩
theorem Ev.xv_For{n sc loc loc' H H1 H2 p target iter body it xs src fl}(hs:isSetE iter=false)(x1:Ev pe n (.e sc loc iter H) (.v it H1))(hi:items H1 it=some (xs,src))(x3:Ev pe n (.for sc target body src H1 xs loc H1) (.f fl loc' H2)):Ev pe (n+1) (.x sc (.For target iter body [] p) loc H) (.f fl loc' H2):=⟨fun P=>x_For hs (x1.go P) hi (x3.go P)⟩
theorem Ev.for_nil{n sc target body src H0 loc H} : Ev pe n (.for sc target body src H0 [] loc H) (.f .next loc H):=⟨fun ι=>f_nil⟩
theorem Ev.for_cons{n sc target body src H0 x xs loc loc1 loc2 loc' H H1 H2 fl fl'}(hb:bindT sc H target x loc=some loc1)(x1:Ev pe n (.xs sc body loc1 H) (.f fl loc2 H1))(hg:goesOn fl=true)(st:stands H0 H1 src)(x4:Ev pe n (.for sc target body src H0 xs loc2 H1) (.f fl' loc' H2)):Ev pe n (.for sc target body src H0 (x::xs) loc H) (.f fl' loc' H2):=⟨fun P=>f_cons hb (x1.go P) hg st (x4.go P)⟩
theorem Ev.for_ret{n sc target body src H0 x xs loc loc1 loc2 H H1 v}(hb:bindT sc H target x loc=some loc1)(x1:Ev pe n (.xs sc body loc1 H) (.f (.ret v) loc2 H1)):Ev pe n (.for sc target body src H0 (x::xs) loc H) (.f (.ret v) loc2 H1):=⟨fun P=>f_ret hb (x1.go P)⟩
theorem Ev.for_forget{n sc target body src H0 xs loc0 loc loc' H H2 fl}(hl:(∀ y v,loc0.lookup y=some v→loc.lookup y=some v))(x1:Ev pe n (.for sc target body src H0 xs loc0 H) (.f fl loc' H2)):Ev pe n (.for sc target body src H0 xs loc H) (.f fl loc' H2):=⟨fun P=>f_forget hl (x1.go P)⟩
theorem Ev.xv_ForG{n sc loc loc' H H1 H2 H3 o e name ap cp pos target body u w f i ids fl}{lv:Nat→List V}(hp:ap.endLine=cp.line)(hs:isSuper o=false)(x1:Ev pe n (.e sc loc o H) (.v u H1))(hg:attr pe H1 name u=some (.mt f w))(hgen:pe.gen f)(x2:Ev pe n (.l sc loc [e] H1) (.l [.ref i] H2))(hi:H2.f i = .list (ids.map .ref))(hlv:∀ j∈ids,H2.f j = .list (lv j))(hsm:∀ j∈ids,(lv j).length≤lim)(x3:Ev pe n (.forG sc target body (i::ids) H2 (ids.reverse.flatMap lv) loc H2) (.f fl loc' H3)):Ev pe (n+1) (.x sc (.For target (.Call (.Attribute o name ap) [e] [] cp) body [] pos) loc H) (.f fl loc' H3):=⟨fun P=>x_ForG P hp hs (x1.go P) hg hgen (x2.go P) hi hlv hsm (x3.go P)⟩
theorem Ev.forG_nil{n sc target body src H0 loc H}:Ev pe n (.forG sc target body src H0 [] loc H) (.f .next loc H):=⟨fun P=>fg_nil P⟩
theorem Ev.forG_cons{n sc target body src H0 x xs loc loc1 loc2 loc' H H1 H2 fl fl'}(hb:bindT sc H target x loc=some loc1)(x1:Ev pe n (.xs sc body loc1 H) (.f fl loc2 H1))(hg:goesOn fl=true)(st:standsL H0 H1 src)(x4:Ev pe n (.forG sc target body src H0 xs loc2 H1) (.f fl' loc' H2)):Ev pe n (.forG sc target body src H0 (x::xs) loc H) (.f fl' loc' H2):=⟨fun P=>fg_cons P hb (x1.go P) hg st (x4.go P)⟩
theorem Ev.forG_ret{n sc target body src H0 x xs loc loc1 loc2 H H1 v}(hb:bindT sc H target x loc=some loc1)(x1:Ev pe n (.xs sc body loc1 H) (.f (.ret v) loc2 H1)):Ev pe n (.forG sc target body src H0 (x::xs) loc H) (.f (.ret v) loc2 H1):=⟨fun P=>fg_ret P hb (x1.go P)⟩
theorem Ev.forG_forget{n sc target body src H0 xs loc0 loc loc' H H2 fl}(hl:(∀ y v,loc0.lookup y=some v→loc.lookup y=some v))(x1:Ev pe n (.forG sc target body src H0 xs loc0 H) (.f fl loc' H2)):Ev pe n (.forG sc target body src H0 xs loc H) (.f fl loc' H2):=⟨fun P=>fg_forget hl (x1.go P)⟩
theorem Ev.xv_ForL{n sc loc loc' H H1 H2 p target iter body b is fl}(hs:isSetE iter=false)(x1:Ev pe n (.e sc loc iter H) (.v (.fn b) H1))(hi:pe.lst b=some is)(x3:Ev pe n (.forL sc target body (is.map .int) loc H1) (.f fl loc' H2)):Ev pe (n+1) (.x sc (.For target iter body [] p) loc H) (.f fl loc' H2):=⟨fun P=>x_ForL P hs (x1.go P) hi (x3.go P)⟩
theorem Ev.forL_nil{n sc target body loc H}:Ev pe n (.forL sc target body [] loc H) (.f .next loc H):=⟨fun ι=>fl_nil⟩
theorem Ev.forL_cons{n sc target body x xs loc loc1 loc2 loc' H H1 H2 fl fl'}(hb:bindT sc H target x loc=some loc1)(x1:Ev pe n (.xs sc body loc1 H) (.f fl loc2 H1))(hg:goesOn fl=true)(x4:Ev pe n (.forL sc target body xs loc2 H1) (.f fl' loc' H2)):Ev pe n (.forL sc target body (x::xs) loc H) (.f fl' loc' H2):=⟨fun P=>fl_cons hb (x1.go P) hg (x4.go P)⟩
theorem Ev.forL_forget{n sc target body xs loc0 loc loc' H H2 fl}(hl:(∀ y v,loc0.lookup y=some v→loc.lookup y=some v))(x1:Ev pe n (.forL sc target body xs loc0 H) (.f fl loc' H2)):Ev pe n (.forL sc target body xs loc H) (.f fl loc' H2):=⟨fun P=>fl_forget hl (x1.go P)⟩
theorem Ev.xv_Esc{n sc loc loc' H k1 k2 k3 p1 p2 p3 p4 p5 p6 p7 p8 p9 p10 p11}{x c z v:Str}(hx:look pe sc loc x=some (.str v))(ho:own sc x=true)(hp:p6.endLine=p9.line)(hcz:(c==z)=false)(hl:v.length+(v.length+1)*z.length≤lim)(e:(bif Txt.contains v c then setL loc x (.str (Txt.replace v c z)) else loc)=loc'):Ev pe (n+1) (.x sc (.If (.Compare (.Constant (.str c) k1 p1) [.In] [.Name x p2] p3) [.Assign [.Name x p4] (.Call (.Attribute (.Name x p5) "replace" p6) [.Constant (.str c) k2 p7,.Constant (.str z) k3 p8] [] p9) p10] [] p11) loc H) (.f .next loc' H):=⟨fun P=>x_Esc P hx ho hp hcz hl e⟩
theorem Ev.tv_NeL{n sc loc H H1 H2 p a b l is j}(hs:isSetE b=false)(x1:Ev pe n (.e sc loc a H) (.v (.fn l) H1))(x2:Ev pe n (.e sc loc b H1) (.v (.ref j) H2))(hj:H2.f j = .list [])(hl:pe.lst l=some is):Ev pe (n+1) (.t sc loc (.Compare a [.NotEq] [b] p) H) (.b (!is.isEmpty) H2):=⟨fun P=>t_NeL P hs (x1.go P) (x2.go P) hj hl⟩
theorem Ev.xv_Del{n sc loc H H1 H2 p o ps ps' j xs}(x0:Ev pe n (.e sc loc o H) (.v (.ref j) H1))(hf:H1.f j = .list xs)(hl:xs.length≤lim)(e:H1.put j (.list [])=H2):Ev pe (n+1) (.x sc (.Delete [.Subscript o (.Slice none none none ps) ps'] p) loc H) (.f .next loc H2):=⟨fun P=>x_Del (x0.go P) hf hl e⟩
theorem Ev.xv_Try{n sc loc loc' H H1 p body h0 hs fl}(x0:Ev pe n (.xs sc body loc H) (.f fl loc' H1)):Ev pe (n+1) (.x sc (.Try body (h0::hs) [] [] p) loc H) (.f fl loc' H1):=⟨fun P=>x_Try (x0.go P)⟩
theorem Ev.xs_nil{n sc loc H} : Ev pe n (.xs sc [] loc H) (.f .next loc H):=⟨fun ι=>xs_sound_nil⟩
theorem Ev.xs_cons{n sc loc loc1 loc' H H1 H2 s r fl}(x0:Ev pe n (.x sc s loc H) (.f .next loc1 H1))(x1:Ev pe n (.xs sc r loc1 H1) (.f fl loc' H2)):Ev pe n (.xs sc (s::r) loc H) (.f fl loc' H2):=⟨fun P=>xs_sound_cons (x0.go P) (x1.go P)⟩
theorem Ev.xs_stop{n sc loc loc' H H1 s r fl}(x0:Ev pe n (.x sc s loc H) (.f fl loc' H1))(h:isNext fl=false):Ev pe n (.xs sc (s::r) loc H) (.f fl loc' H1):=⟨fun P=>xs_sound_stop (x0.go P) h⟩
theorem Ev.run_fn{n sc loc' H H1 f fd body ps args kws fl v}(h1:pe.fn f=some fd)(h2:pe.sig f args.length (kws.map (·.1)) ps)(h3:fd.body = .stmts body)(h4:fd.scope.names=sc)(x4:Ev pe n (.xs sc body (ps.map fun p=>(p.1,p.2.get args (kws.map (·.2)))) H) (.f fl loc' H1))(h6:flV fl=some v):Ev pe n (.run f args kws H) (.v v H1):=⟨fun P=>run_sound P h1 h2 h3 h4 (x4.go P) h6⟩
theorem Ev.c_mt{n f x args kws H H1 v}(x0:Ev pe n (.run f (x::args) kws H) (.v v H1)):Ev pe (n+1) (.c (.mt f x) args kws H) (.v v H1):=⟨fun P=>s_mt (x0.go P)⟩
theorem Ev.c_fn{n f args kws H H1 v}(x0:pe.init f=none)(x1:Ev pe n (.run f args kws H) (.v v H1)):Ev pe (n+1) (.c (.fn f) args kws H) (.v v H1):=⟨fun P=>s_fn (x1.go P)⟩
theorem Ev.c_cls{n f g args kws H H1}(h:pe.init f=some g)(x1:Ev pe n (.run g (.ref (H.n+1)::args) kws ((H.alloc (.ns [])).alloc (.inst f H.n))) (.v .none H1)):Ev pe (n+1) (.c (.fn f) args kws H) (.v (.ref (H.n+1)) H1):=⟨fun P=>s_cls P h (x1.go P)⟩
theorem Ev.c_bm{n m x args H H1 v}(h:Prm H m x args v H1):Ev pe (n+1) (.c (.bm m x) args [] H) (.v v H1):=⟨fun P=>s_bm P h⟩
theorem Ev.c_bf{n m args H H1 v}(h:PrF pe H m args v H1):Ev pe (n+1) (.c (.bf m) args [] H) (.v v H1):=⟨fun P=>s_bf P h⟩
end
end
section
noncomputable def bfTab:List (Str×Bf):=[("len",.len),("sum",.sum),("sorted",.sorted),("set",.set),("list",.list),("dict",.dict),("divmod",.divmod),("chr",.chr),("range",.range)]
noncomputable def bfOf(x:Str):Option Bf:=bfTab.lookup x
theorem boot_all:∀ q∈bfTab,bootBuiltins q.1=some q.2.val∧q.1≠"__name__":=by
 have h:∀ {q:Str×Bf} {l:List (Str×Bf)},(bootBuiltins q.1=some q.2.val∧q.1≠"__name__")→(∀ r∈l,bootBuiltins r.1=some r.2.val∧r.1≠"__name__")→∀ r∈q::l,bootBuiltins r.1=some r.2.val∧r.1≠"__name__":=fun h1 h2 r hr=>by
  rcases List.mem_cons.mp hr with rfl | hr
  ·exact h1
  ·exact h2 r hr
 exact h ⟨by kernel_rfl,by decide⟩ (h ⟨by kernel_rfl,by decide⟩ (h ⟨by kernel_rfl,by decide⟩ (h ⟨by kernel_rfl,by decide⟩ (h ⟨by kernel_rfl,by decide⟩ (h ⟨by kernel_rfl,by decide⟩ (h ⟨by kernel_rfl,by decide⟩ (h ⟨by kernel_rfl,by decide⟩ (h ⟨by kernel_rfl,by decide⟩ fun ι h=>nomatch h))))))))
theorem boot_bf{x:Str}{b:Bf}(h:bfOf x=some b):bootBuiltins x=some b.val∧x≠"__name__":=boot_all _ (mem_of_lookup h)
structure Cfg where
 K:Frag
 C:Addr
 init:Addr
 names:List Str
 lam:Option (Sc×Addr×Addr×Str)
 nsm:Option (Addr×List (Str×Str))
 lst:Addr→Option (List Int)
 sig:Addr→Nat→List Str→List (Str×Src)→Prop
 gen:Addr→Prop
noncomputable def globV:Value→Option V
 | .ref a=>some (.fn a)
 | _=>none
noncomputable def globO(x:Str):Option Value→Option V
 | some u=>globV u
 | none=>(bfOf x).map .bf
noncomputable def Cfg.glob(c:Cfg)(x:Str):Option V:=(nsIn c.K mainGlobals x).bind (globO x)
noncomputable def Cfg.lamT(c:Cfg)(sc:Sc):Option (Addr×Addr×Str):=match c.lam with
 | some (sc',r)=>if sc=sc' then some r else none
 | none=>none
noncomputable def Cfg.good(c:Cfg)(fd:FuncData):Bool :=
 fd.globals==mainGlobals&&fd.builtins==builtinsNs&&fd.closure.isEmpty&&decide (fd.scope.kind = .function) && !fd.scope.isGenerator && !fd.scope.isCoroutine&&codeIn c.K fd.code fd.qualname &&
  (match c.lamT fd.scope.names with
   | some (a,_,q)=>fd.code == .ref a&&fd.qualname++".<locals>."++"<lambda>"==q
   | none=>true)
noncomputable def fnD:Data→Option FuncData
 | .func fd=>some fd
 | _=>none
noncomputable def Cfg.fn(c:Cfg)(f:Addr):Option FuncData:=(c.K.lookup f).bind fun o=>(fnD o.data).bind fun fd=>if c.good fd=true then some fd else none
theorem fnD_of{d:Data}{fd:FuncData}(h:fnD d=some fd):d = .func fd:=by
 cases d with
 | func fd'=>exact congrArg Data.func (Option.some.inj h)
 | _=>exact noS h
noncomputable def clsM(K:Frag)(C:Addr)(name:Str):Option Addr:=match findIn K (.ref C) name with
 | some (some (.ref f))=>some f
 | _=>none
noncomputable def clsGood(K:Frag)(C:Addr)(name:Str):Bool :=
 findIn K (.ref C) "__getattribute__"==some (some (.builtin "object.__getattribute__"))&&findIn K (.ref C) "__getattr__"==some none&&findIn K (.ref C) "__setattr__"==some (some (.builtin "object.__setattr__")) &&
 (match findIn K (.ref C) name with
  | some none=>true
  | some (some (.ref f))=>typeIn K (.ref f)==some (.type "function")&&specialIn K (.ref f) "__get__"==some (some (.builtin "function.__get__"))&&takesIn K (.ref f)==some false
  | _=>false)&&(clsIn K C).any (·.hasDict)&&plainOver K C && !copiedNames.contains name
noncomputable def Cfg.cls(c:Cfg)(C:Addr)(name:Str):Option (Option Addr):=if C=c.C∧name∈c.names then some (clsM c.K C name) else none
noncomputable def Cfg.pe(c:Cfg):Pe where
 glob:=c.glob
 fn:=c.fn
 sig:=c.sig
 cls:=c.cls
 init:=fun C=>if C=c.C then some c.init else none
 lam:=c.lamT
 nsm:=c.nsm.map (·.2)
 lst:=c.lst
 gen:=c.gen
theorem mg_none{K:Frag}{h:Heap}{mg:Str→Option Value}{n:Str}(X:K.In h)(G:h.Ns mainGlobals mg)(e:nsIn K mainGlobals n=some none):mg n=none:=by
 obtain ⟨o,es,ep,ho,hd,_,hf⟩:=G
 unfold nsIn at e
 cases q:K.lookup mainGlobals with
 | none=>rw[q] at e; first | contradiction | cases e
 | some o' =>
  cases Option.some.inj (ho.symm.trans (X _ _ q))
  rw[q] at e
  obtain ⟨c,d,dat,sl⟩:=o
  subst hd
  have hq:es.toList.find? (·.key.isStr n)=none:=by
   cases hq:es.toList.find? (·.key.isStr n) with
   | none=>rfl
   | some e1 =>
    replace e:(match es.toList.find? (·.key.isStr n) with
     | some e=>some (some e.val)
     | none=>if es.toList.any (·.refKey) then none else some none)=some none:=e
    rw[hq] at e; first | contradiction | cases e
  rw[← hf]
  obtain ⟨l⟩:=es
  unfold nsFind findBy
  rw[List.find?_toArray]
  exact congrArg (Option.map _) hq
set_option tactic.hygienic true in
theorem clsOk_of{cx:Cx}{C:Addr}{name:Str}(h:clsGood cx.K C name=true):ClsOk cx C name (clsM cx.K C name):=by
 unfold clsGood at h
 simp only[Bool.and_eq_true,beq_iff_eq,Bool.not_eq_true'] at h
 obtain ⟨⟨⟨⟨⟨⟨h1,h2⟩,h3⟩,h4⟩,h5⟩,h6⟩,h7⟩:=h
 obtain ⟨cd,hcd,hdict⟩:=any_some h5
 unfold clsM
 split at h4
 ·rename_i e
  exact ⟨h1,h2,h3,by rw[e]; rfl,⟨cd,hcd,hdict⟩,h6,h7,fun f q=>by rw[e] at q; first | contradiction | cases q⟩
 ·rename_i f e
  simp only[Bool.and_eq_true,beq_iff_eq] at h4
  exact ⟨h1,h2,h3,by rw[e]; rfl,⟨cd,hcd,hdict⟩,h6,h7,fun f' q=>by rw[e] at q; cases q; exact ⟨h4.1.1,h4.1.2,h4.2⟩⟩
 ·first | contradiction | cases h4
theorem peOk_of{c:Cfg}{cx:Cx}{mg mb:Str→Option Value}(hK:cx.K=c.K)(hlam:cx.lam=c.lamT)(X:c.K.In cx.g)(G:cx.g.Ns mainGlobals mg)(B:cx.g.Ns builtinsNs mb)(hb:∀ x:Str,x≠"__name__"→mb x=bootBuiltins x)(hnl:cx.g.NoLimit)(hst:HasSys cx)
  (hinit:makesIn c.K c.C=true∧findIn c.K (.ref c.C) "__init__"=some (some (.ref c.init))∧typeIn c.K (.ref c.init)=some (.type "function")) (hcls:c.names.all (clsGood c.K c.C)=true)
  (hlamOk:∀ {sc a P q},c.lamT sc=some (a,P,q)→CodeHd cx.g a P∧∃ mg,cx.g.Ns mainGlobals mg∧cx.g.BuiltinsAt mg P∧mainGlobals≠P)
  (hnsm:∀ {a l},c.nsm=some (a,l)→c.glob "list"=some (.bf .list)∧nsIn c.K mainGlobals nsMapName=some (some (.ref a))∧∃ ps,(a==sysModules)=false∧ps.length≤1000∧cx.g.DictOf (PySem.strKind cx.prog cx.w) a ps∧ps.map (·.1)=l.map (·.1)∧StrsAre (ps.map (·.2)) (l.map (·.2)))
  (hlst:∀ {a is},c.lst a=some is→is.length≤1000∧∃ vs:Array Value,cx.g.IsList a vs∧∀ n ρ h,RepL n ρ h vs.toList (is.map .int))
  (hsig:∀ {f fd n ks ps},c.fn f=some fd→c.sig f n ks ps→SigOk cx fd n ks ps) (hgen:∀ {f},c.gen f→∃ fd,GfOk cx f fd):PeOk c.pe cx where
 glob:=fun {x v} h=>by
  obtain ⟨o,e,h⟩:=Option.bind_eq_some_iff.mp h
  cases o with
  | some u =>
   cases u with
   | ref a =>
    cases h
    refine ⟨.ref a,fun ι ι ι => .fn a,fun {A env s Q E} hg ι hk hQ => ?_⟩
    exact PySem.Calls.loadGlobal_global (mg:=mg) (by rw[hg]; exact G.keeps hk) (mg_of X G e) hQ
   | _=>exact noS h
  | none =>
   obtain ⟨b,hbf,rfl⟩:=Option.map_eq_some_iff.mp h
   obtain ⟨h1,h2⟩:=boot_bf hbf
   refine ⟨b.val,fun ι ι ι => .bf b,fun {A env s Q E} hg hbu hk hQ => ?_⟩
   exact PySem.Calls.loadGlobal_builtin (mg:=mg) (mb:=mb) (by rw[hg]; exact G.keeps hk) (mg_none X G e) (by rw[hbu]; exact B.keeps hk) (by rw[hb _ h2]; exact h1) hQ
 noLimit:=hnl
 sys:=hst
 fn:=fun {f fd} h=>by
  obtain ⟨o,e,h⟩:=Option.bind_eq_some_iff.mp h
  obtain ⟨fd',e',h⟩:=Option.bind_eq_some_iff.mp h
  obtain ⟨hg,rfl⟩:=ite_some h
  obtain ⟨oc,od,dat,osl⟩:=o
  cases fnD_of e'
  obtain ⟨hg,h8⟩:=Bool.and_eq_true_iff.mp hg
  obtain ⟨hg,h7⟩:=Bool.and_eq_true_iff.mp hg
  obtain ⟨hg,h6⟩:=Bool.and_eq_true_iff.mp hg
  obtain ⟨hg,h5⟩:=Bool.and_eq_true_iff.mp hg
  obtain ⟨hg,h4⟩:=Bool.and_eq_true_iff.mp hg
  obtain ⟨hg,h3⟩:=Bool.and_eq_true_iff.mp hg
  obtain ⟨h1,h2⟩:=Bool.and_eq_true_iff.mp hg
  refine ⟨⟨_,X _ _ e,rfl⟩,beq_iff_eq.mp h1,beq_iff_eq.mp h2,List.isEmpty_iff.mp h3,of_decide_eq_true h4,(Bool.not_eq_true' _).mp h5,(Bool.not_eq_true' _).mp h6,codeRec_of X h7,fun a P q hl => ?_⟩
  rw[hlam] at hl
  rw[hl] at h8
  obtain ⟨h9,h10⟩:=Bool.and_eq_true_iff.mp h8
  exact ⟨beq_iff_eq.mp h9,beq_iff_eq.mp h10⟩
 kin:=by rw[hK]; exact X
 init:=fun {C g} h=>by
  obtain ⟨rfl,rfl⟩:=ite_some h
  rw[hK]; exact hinit
 cls:=fun {C name m} h=>by
  obtain ⟨⟨rfl,hm⟩,rfl⟩:=ite_some h
  have:=List.all_eq_true.mp hcls name hm
  rw[← hK] at this ⊢
  exact clsOk_of this
 lam:=fun sc=>by rw[hlam]; rfl
 lamOk:=fun {sc a P q} h=>by rw[hlam] at h; exact hlamOk h
 nsm:=fun {l} h=>by
  obtain ⟨⟨a,l'⟩,h',rfl⟩:=Option.map_eq_some_iff.mp h
  obtain ⟨h1,h2,ps,h3,h4,h5,h6,h7⟩:=hnsm h'
  refine ⟨h1,a,ps,fun {A env s Q E} hg hbu hk hQ => ?_,h3,h4,h5,h6,h7⟩
  exact PySem.Calls.loadGlobal_global (mg:=mg) (by rw[hg]; exact G.keeps hk) (mg_of X G h2) hQ
 lst:=fun {a is} h=>hlst h
 sig:=fun {f fd n ks ps} h1 h2=>hsig h1 h2
 gen:=fun {f} h=>hgen h
noncomputable def runS(K:Frag){α:Type}:Sem α→Option α
 | .pure a=>some a
 | .rule _ k=>runS K (k ())
 | .at _ k=>runS K (k ())
 | .load a _ k=>(K.lookup a).bind fun o=>runS K (k o)
 | _=>none
theorem runS_sound{K:Frag}{s:Shared}(X:K.In s.heap){M:Model}{Γ:Ctx}{α:Type}{a:α}{Q:α→Pos→Shared→Prop}{E}(hQ:∀ p,Q a p s):∀ (m:Sem α) {p:Pos},runS K m=some a→Sem.wp M Γ m Q E p s:=by
 intro m
 induction m with
 | pure b=>intro p h; cases h; exact hQ p
 | rule t k ih=>intro p h; exact ih () h
 | «at» p' k ih=>intro p h; exact ih () h
 | load b part k ih =>
  intro p h
  obtain ⟨o,e,h⟩:=Option.bind_eq_some_iff.mp h
  exact ⟨o,X _ _ e,ih o h⟩
 | _=>intro p h; cases h
theorem sig_runK{cx:Cx}{fd:FuncData}{n:Nat}{ks:List Str}{ps:List (Str×Src)}(K:Frag)(X:K.In cx.g)(hks:ps.all (fun p=>ownK (fd.scope.names.lookup p.1))=true)(hnd:(ps.map (·.1)).Nodup)
  (h:∀ (vs:List Value) (kvs:List (Str×Value)),vs.length=n→kvs.map (·.1)=ks→∃ us,runS K (bindArgs fd ⟨vs,kvs⟩)=some ((ps.map (·.1)).zip us)∧Srcs cx.g vs kvs ps us):SigOk cx fd n ks ps where
 kinds:=fun p hp=>by
  have:=List.all_eq_true.mp hks p hp
  generalize fd.scope.names.lookup p.1=k at this
  cases k with
  | none=>first | contradiction | cases this
  | some k=>cases k <;> first | exact .inl rfl | exact .inr rfl | cases this
 nodup:=hnd
 bind:=fun {A s vs kvs Q E} hk hl hkv hQ=>by
  obtain ⟨us,h1,h2⟩:=h vs kvs hl hkv
  exact fun Γ p _=>runS_sound (X.keeps hk) (fun ι=>hQ us h2) _ h1
theorem sig_run{cx:Cx}{fd:FuncData}{n:Nat}{ps:List (Str×Src)}(K:Frag)(X:K.In cx.g)(hks:ps.all (fun p=>ownK (fd.scope.names.lookup p.1))=true)(hnd:(ps.map (·.1)).Nodup)
  (h:∀ vs,vs.length=n→∃ us,runS K (bindArgs fd ⟨vs,[]⟩)=some ((ps.map (·.1)).zip us)∧Srcs cx.g vs [] ps us):SigOk cx fd n [] ps :=
 sig_runK K X hks hnd fun vs kvs hl hk=>by
  cases List.map_eq_nil_iff.mp hk
  exact h vs hl
theorem len1{α:Type}{vs:List α}(h:vs.length=1):∃ a,vs=[a]:=by
 cases vs with
 | nil=>exact nomatch h
 | cons a vs=>exact ⟨a,congrArg (a :: ·) (List.length_eq_zero_iff.mp (Nat.succ.inj h))⟩
theorem lenB{α:Type}{vs:List α}(h:vs.length=2):Ex2 fun a b=>vs=[a,b]:=by
 cases vs with
 | nil=>exact nomatch h
 | cons a vs=>obtain ⟨b,e⟩:=len1 (Nat.succ.inj h); exact ⟨a,b,congrArg (a :: ·) e⟩
theorem len3{α:Type}{vs:List α}(h:vs.length=3):Ex3 fun a b c=>vs=[a,b,c]:=by
 cases vs with
 | nil=>exact nomatch h
 | cons a vs=>obtain ⟨b,c,e⟩:=lenB (Nat.succ.inj h); exact ⟨a,b,c,congrArg (a :: ·) e⟩
theorem len4{α:Type}{vs:List α}(h:vs.length=4):Ex4 fun a b c d=>vs=[a,b,c,d]:=by
 cases vs with
 | nil=>exact nomatch h
 | cons a vs=>obtain ⟨b,c,d,e⟩:=len3 (Nat.succ.inj h); exact ⟨a,b,c,d,congrArg (a :: ·) e⟩
end
section
noncomputable def fdAt(K:Frag)(a:Addr):FuncData:=match K.lookup a with
 | some ⟨_,_,.func fd,_⟩=>fd
 | _=>default
noncomputable def bodyAt(K:Frag)(a:Addr):List Stmt:=match (fdAt K a).body with
 | .stmts b=>b
 | _=>[]
noncomputable def strsAt(K:Frag)(a:Addr):List (Str×Str):=match K.lookup a with
 | some ⟨_,_,.dict es _,_⟩=>es.toList.filterMap fun e=>match e.key,e.val with
  | .str k _,.str v _=>some (k,v)
  | _,_=>none
 | _=>[]
noncomputable def names3:List Str:=["_write","_data","_with_comments","_strip_text","_exclude_attrs","_exclude_tags","_rewrite_prefixes","_qname_aware_tags","_find_qname_aware_attrs","_declared_ns_stack","_ns_stack","_prefix_map","_preserve_space","_pending_start","_root_seen","_root_done","_ignored_depth","_iter_namespaces","start_ns","start","_start","end","data","_flush","_qname"]
inductive Sig3:Addr→Nat→List Str→List (Str×Src)→Prop
 | law:Sig3 206 1 [] [("script",.arg 0)]
 | events:Sig3 175 1 [] [("numbers",.arg 0)]
 | told:Sig3 182 1 [] [("events",.arg 0)]
 | part:Sig3 189 2 [] [("events",.arg 0),("place",.arg 1)]
 | label:Sig3 196 1 [] [("name",.arg 0)]
 | cut:Sig3 201 2 [] [("whole",.arg 0),("place",.arg 1)]
 | init:Sig3 67 2 [] [("self",.arg 0),("write",.arg 1),("with_comments",.dflt (.bool false)),("strip_text",.dflt (.bool false)),("rewrite_prefixes",.dflt (.bool false)),("qname_aware_tags",.dflt .none),("qname_aware_attrs",.dflt .none),("exclude_attrs",.dflt .none),("exclude_tags",.dflt .none)]
 | qname:Sig3 90 2 [] [("self",.arg 0),("qname",.arg 1),("uri",.dflt .none)]
 | data:Sig3 97 2 [] [("self",.arg 0),("data",.arg 1)]
 | flush:Sig3 106 1 [] [("self",.arg 0),("_join_text",.dflt (.bm .tJoin (.str "")))]
 | startns:Sig3 113 3 [] [("self",.arg 0),("prefix",.arg 1),("uri",.arg 2)]
 | start:Sig3 120 3 [] [("self",.arg 0),("tag",.arg 1),("attrs",.arg 2)]
 | start2:Sig3 126 4 [] [("self",.arg 0),("tag",.arg 1),("attrs",.arg 2),("new_namespaces",.arg 3),("qname_text",.dflt .none)]
 | end_:Sig3 133 2 [] [("self",.arg 0),("tag",.arg 1)]
 | ecd:Sig3 161 1 [] [("text",.arg 0)]
 | eat:Sig3 168 1 [] [("text",.arg 0)]
noncomputable def lamName:Str:="C14NWriterTarget._start.<locals>.<lambda>"
noncomputable def cfg3(P:Params)(sa:Addr)(is:List Int):Cfg:=⟨hd.heap_39 P,150,67,names3,some ((fdAt (hd.heap_39 P) 126).scope.names,125,123,lamName),some (44,strsAt (hd.heap_39 P) 44),fun a=>if a=sa then some is else none,Sig3,fun a=>a=75⟩
section
variable (P:Params) (sa:Addr) (is:List Int)
theorem fn_law:(cfg3 P sa is).fn 206=some (fdAt (hd.heap_39 P) 206):=by kernel_rfl
theorem fn_events:(cfg3 P sa is).fn 175=some (fdAt (hd.heap_39 P) 175):=by kernel_rfl
theorem fn_told:(cfg3 P sa is).fn 182=some (fdAt (hd.heap_39 P) 182):=by kernel_rfl
theorem fn_part:(cfg3 P sa is).fn 189=some (fdAt (hd.heap_39 P) 189):=by kernel_rfl
theorem fn_label:(cfg3 P sa is).fn 196=some (fdAt (hd.heap_39 P) 196):=by kernel_rfl
theorem fn_cut:(cfg3 P sa is).fn 201=some (fdAt (hd.heap_39 P) 201):=by kernel_rfl
theorem fn_init:(cfg3 P sa is).fn 67=some (fdAt (hd.heap_39 P) 67):=by kernel_rfl
theorem fn_qname:(cfg3 P sa is).fn 90=some (fdAt (hd.heap_39 P) 90):=by kernel_rfl
theorem fn_data:(cfg3 P sa is).fn 97=some (fdAt (hd.heap_39 P) 97):=by kernel_rfl
theorem fn_flush:(cfg3 P sa is).fn 106=some (fdAt (hd.heap_39 P) 106):=by kernel_rfl
theorem fn_startns:(cfg3 P sa is).fn 113=some (fdAt (hd.heap_39 P) 113):=by kernel_rfl
theorem fn_start:(cfg3 P sa is).fn 120=some (fdAt (hd.heap_39 P) 120):=by kernel_rfl
theorem fn_start':(cfg3 P sa is).fn 126=some (fdAt (hd.heap_39 P) 126):=by kernel_rfl
theorem fn_end:(cfg3 P sa is).fn 133=some (fdAt (hd.heap_39 P) 133):=by kernel_rfl
theorem fn_ecd:(cfg3 P sa is).fn 161=some (fdAt (hd.heap_39 P) 161):=by kernel_rfl
theorem fn_eat:(cfg3 P sa is).fn 168=some (fdAt (hd.heap_39 P) 168):=by kernel_rfl
theorem init_ok:makesIn (cfg3 P sa is).K (cfg3 P sa is).C=true∧findIn (cfg3 P sa is).K (.ref (cfg3 P sa is).C) "__init__"=some (some (.ref (cfg3 P sa is).init))∧typeIn (cfg3 P sa is).K (.ref (cfg3 P sa is).init)=some (.type "function"):=⟨by kernel_rfl,by kernel_rfl,by kernel_rfl⟩
theorem cls_ok:(cfg3 P sa is).names.all (clsGood (cfg3 P sa is).K (cfg3 P sa is).C)=true:=by kernel_rfl
theorem list_ok:(cfg3 P sa is).glob "list"=some (.bf .list):=by kernel_rfl
theorem map_ok:nsIn (cfg3 P sa is).K mainGlobals nsMapName=some (some (.ref 44)):=by kernel_rfl
theorem code_ok:codeHdIn (cfg3 P sa is).K 125 123=true:=by kernel_rfl
theorem noTabs_ok:noTabs (cfg3 P sa is).K=true:=by kernel_rfl
theorem law_at:nsIn (cfg3 P sa is).K mainGlobals "law"=some (some (.ref 206)):=by kernel_rfl
theorem sg_law{cx:Cx}(X:(hd.heap_39 P).In cx.g):SigOk cx (fdAt (hd.heap_39 P) 206) 1 [] [("script",.arg 0)] :=
 sig_run _ X (by kernel_rfl) (by decide) fun vs h=>by obtain ⟨a,rfl⟩:=len1 h; exact ⟨[a],by kernel_rfl,.cons rfl (.nil)⟩
theorem sg_events{cx:Cx}(X:(hd.heap_39 P).In cx.g):SigOk cx (fdAt (hd.heap_39 P) 175) 1 [] [("numbers",.arg 0)] :=
 sig_run _ X (by kernel_rfl) (by decide) fun vs h=>by obtain ⟨a,rfl⟩:=len1 h; exact ⟨[a],by kernel_rfl,.cons rfl (.nil)⟩
theorem sg_told{cx:Cx}(X:(hd.heap_39 P).In cx.g):SigOk cx (fdAt (hd.heap_39 P) 182) 1 [] [("events",.arg 0)] :=
 sig_run _ X (by kernel_rfl) (by decide) fun vs h=>by obtain ⟨a,rfl⟩:=len1 h; exact ⟨[a],by kernel_rfl,.cons rfl (.nil)⟩
theorem sg_part{cx:Cx}(X:(hd.heap_39 P).In cx.g):SigOk cx (fdAt (hd.heap_39 P) 189) 2 [] [("events",.arg 0),("place",.arg 1)] :=
 sig_run _ X (by kernel_rfl) (by decide) fun vs h=>by obtain ⟨a,b,rfl⟩:=lenB h; exact ⟨[a,b],by kernel_rfl,.cons rfl (.cons rfl (.nil))⟩
theorem sg_label{cx:Cx}(X:(hd.heap_39 P).In cx.g):SigOk cx (fdAt (hd.heap_39 P) 196) 1 [] [("name",.arg 0)] :=
 sig_run _ X (by kernel_rfl) (by decide) fun vs h=>by obtain ⟨a,rfl⟩:=len1 h; exact ⟨[a],by kernel_rfl,.cons rfl (.nil)⟩
theorem sg_cut{cx:Cx}(X:(hd.heap_39 P).In cx.g):SigOk cx (fdAt (hd.heap_39 P) 201) 2 [] [("whole",.arg 0),("place",.arg 1)] :=
 sig_run _ X (by kernel_rfl) (by decide) fun vs h=>by obtain ⟨a,b,rfl⟩:=lenB h; exact ⟨[a,b],by kernel_rfl,.cons rfl (.cons rfl (.nil))⟩
theorem sg_init{cx:Cx}(X:(hd.heap_39 P).In cx.g):SigOk cx (fdAt (hd.heap_39 P) 67) 2 [] [("self",.arg 0),("write",.arg 1),("with_comments",.dflt (.bool false)),("strip_text",.dflt (.bool false)),("rewrite_prefixes",.dflt (.bool false)),("qname_aware_tags",.dflt .none),("qname_aware_attrs",.dflt .none),("exclude_attrs",.dflt .none),("exclude_tags",.dflt .none)] :=
 sig_run _ X (by kernel_rfl) (by decide) fun vs h=>by obtain ⟨a,b,rfl⟩:=lenB h; exact ⟨[a,b,.bool false,.bool false,.bool false,.none,.none,.none,.none],by kernel_rfl,.cons rfl (.cons rfl (.cons (fun ι ι ι ι => .bool false) (.cons (fun ι ι ι ι => .bool false) (.cons (fun ι ι ι ι => .bool false) (.cons (fun ι ι ι ι => .none) (.cons (fun ι ι ι ι => .none) (.cons (fun ι ι ι ι => .none) (.cons (fun ι ι ι ι => .none) (.nil)))))))))⟩
theorem sg_qname{cx:Cx}(X:(hd.heap_39 P).In cx.g):SigOk cx (fdAt (hd.heap_39 P) 90) 2 [] [("self",.arg 0),("qname",.arg 1),("uri",.dflt .none)] :=
 sig_run _ X (by kernel_rfl) (by decide) fun vs h=>by obtain ⟨a,b,rfl⟩:=lenB h; exact ⟨[a,b,.none],by kernel_rfl,.cons rfl (.cons rfl (.cons (fun ι ι ι ι => .none) (.nil)))⟩
theorem sg_data{cx:Cx}(X:(hd.heap_39 P).In cx.g):SigOk cx (fdAt (hd.heap_39 P) 97) 2 [] [("self",.arg 0),("data",.arg 1)] :=
 sig_run _ X (by kernel_rfl) (by decide) fun vs h=>by obtain ⟨a,b,rfl⟩:=lenB h; exact ⟨[a,b],by kernel_rfl,.cons rfl (.cons rfl (.nil))⟩
theorem sg_flush{cx:Cx}(X:(hd.heap_39 P).In cx.g):SigOk cx (fdAt (hd.heap_39 P) 106) 1 [] [("self",.arg 0),("_join_text",.dflt (.bm .tJoin (.str "")))] :=
 sig_run _ X (by kernel_rfl) (by decide) fun vs h=>by obtain ⟨a,rfl⟩:=len1 h; exact ⟨[a,.ref 98],by kernel_rfl,.cons rfl (.cons (fun ι ι ι hk => .bm (p := .tJoin) (v := .str "" 437) rfl (hk _ _ (X 98 _ (by kernel_rfl))) (.str _ _)) (.nil))⟩
theorem sg_startns{cx:Cx}(X:(hd.heap_39 P).In cx.g):SigOk cx (fdAt (hd.heap_39 P) 113) 3 [] [("self",.arg 0),("prefix",.arg 1),("uri",.arg 2)] :=
 sig_run _ X (by kernel_rfl) (by decide) fun vs h=>by obtain ⟨a,b,c,rfl⟩:=len3 h; exact ⟨[a,b,c],by kernel_rfl,.cons rfl (.cons rfl (.cons rfl (.nil)))⟩
theorem sg_start{cx:Cx}(X:(hd.heap_39 P).In cx.g):SigOk cx (fdAt (hd.heap_39 P) 120) 3 [] [("self",.arg 0),("tag",.arg 1),("attrs",.arg 2)] :=
 sig_run _ X (by kernel_rfl) (by decide) fun vs h=>by obtain ⟨a,b,c,rfl⟩:=len3 h; exact ⟨[a,b,c],by kernel_rfl,.cons rfl (.cons rfl (.cons rfl (.nil)))⟩
theorem sg_start2{cx:Cx}(X:(hd.heap_39 P).In cx.g):SigOk cx (fdAt (hd.heap_39 P) 126) 4 [] [("self",.arg 0),("tag",.arg 1),("attrs",.arg 2),("new_namespaces",.arg 3),("qname_text",.dflt .none)] :=
 sig_run _ X (by kernel_rfl) (by decide) fun vs h=>by obtain ⟨a,b,c,d,rfl⟩:=len4 h; exact ⟨[a,b,c,d,.none],by kernel_rfl,.cons rfl (.cons rfl (.cons rfl (.cons rfl (.cons (fun ι ι ι ι => .none) (.nil)))))⟩
theorem sg_end_{cx:Cx}(X:(hd.heap_39 P).In cx.g):SigOk cx (fdAt (hd.heap_39 P) 133) 2 [] [("self",.arg 0),("tag",.arg 1)] :=
 sig_run _ X (by kernel_rfl) (by decide) fun vs h=>by obtain ⟨a,b,rfl⟩:=lenB h; exact ⟨[a,b],by kernel_rfl,.cons rfl (.cons rfl (.nil))⟩
theorem sg_ecd{cx:Cx}(X:(hd.heap_39 P).In cx.g):SigOk cx (fdAt (hd.heap_39 P) 161) 1 [] [("text",.arg 0)] :=
 sig_run _ X (by kernel_rfl) (by decide) fun vs h=>by obtain ⟨a,rfl⟩:=len1 h; exact ⟨[a],by kernel_rfl,.cons rfl (.nil)⟩
theorem sg_eat{cx:Cx}(X:(hd.heap_39 P).In cx.g):SigOk cx (fdAt (hd.heap_39 P) 168) 1 [] [("text",.arg 0)] :=
 sig_run _ X (by kernel_rfl) (by decide) fun vs h=>by obtain ⟨a,rfl⟩:=len1 h; exact ⟨[a],by kernel_rfl,.cons rfl (.nil)⟩
theorem sig_all{cx:Cx}(X:(hd.heap_39 P).In cx.g):∀ {f fd n ks ps},(cfg3 P sa is).fn f=some fd→(cfg3 P sa is).sig f n ks ps→SigOk cx fd n ks ps:=by
 intro f fd n ks ps h1 h2
 cases h2 with
 | law=>cases (fn_law P sa is).symm.trans h1; exact sg_law P X
 | events=>cases (fn_events P sa is).symm.trans h1; exact sg_events P X
 | told=>cases (fn_told P sa is).symm.trans h1; exact sg_told P X
 | part=>cases (fn_part P sa is).symm.trans h1; exact sg_part P X
 | label=>cases (fn_label P sa is).symm.trans h1; exact sg_label P X
 | cut=>cases (fn_cut P sa is).symm.trans h1; exact sg_cut P X
 | init=>cases (fn_init P sa is).symm.trans h1; exact sg_init P X
 | qname=>cases (fn_qname P sa is).symm.trans h1; exact sg_qname P X
 | data=>cases (fn_data P sa is).symm.trans h1; exact sg_data P X
 | flush=>cases (fn_flush P sa is).symm.trans h1; exact sg_flush P X
 | startns=>cases (fn_startns P sa is).symm.trans h1; exact sg_startns P X
 | start=>cases (fn_start P sa is).symm.trans h1; exact sg_start P X
 | start2=>cases (fn_start' P sa is).symm.trans h1; exact sg_start2 P X
 | end_=>cases (fn_end P sa is).symm.trans h1; exact sg_end_ P X
 | ecd=>cases (fn_ecd P sa is).symm.trans h1; exact sg_ecd P X
 | eat=>cases (fn_eat P sa is).symm.trans h1; exact sg_eat P X
theorem gen_ok{cx:Cx}(X:(hd.heap_39 P).In cx.g):∀ {f},(cfg3 P sa is).gen f→∃ fd,GfOk cx f fd:=fun {f} h=>by
 cases (show f=75 from h)
 obtain ⟨o,e,ho⟩:=Option.bind_eq_some_iff.mp (show ((hd.heap_39 P).lookup 75).bind (fun o=>fnD o.data)=some (fdAt (hd.heap_39 P) 75) by kernel_rfl)
 refine ⟨fdAt (hd.heap_39 P) 75,⟨⟨o,X _ _ e,fnD_of ho⟩,by kernel_rfl,by kernel_rfl,by kernel_rfl,⟨_,_,_,_,_,_,_,_,_,_,rfl⟩,codeRec_of X (by kernel_rfl),by kernel_rfl,fun {A s v1 v2 Q E} hk hQ => ?_⟩⟩
 exact fun Γ p _=>runS_sound (X.keeps hk) (fun ι=>hQ) _ (show runS (hd.heap_39 P) (bindArgs (fdAt (hd.heap_39 P) 75) ⟨[v1,v2],[]⟩)=some ([("self",v1),("ns_stack",v2),("_reversed",.type "reversed")]:List (Str×Value)) by kernel_rfl)
end
end
section
noncomputable def H0:Hp:=⟨fun ι => .tab 123 lamName,1⟩
noncomputable def esAt(K:Frag)(a:Addr):Array DictEntry:=match K.lookup a with
 | some ⟨_,_,.dict es _,_⟩=>es
 | _ => #[]
noncomputable def epAt(K:Frag)(a:Addr):Nat:=match K.lookup a with
 | some ⟨_,_,.dict _ n,_⟩=>n
 | _=>0
noncomputable def StrEnts(P:Params):List DictEntry→Prop
 | []=>True
 | e::r=>(Ex4 fun x t y u=>e.key = .str x t∧e.hash=PyData.keyHash P x∧e.val = .str y u)∧StrEnts P r
noncomputable def entStr(e:DictEntry):Option (Str×Str):=match e.key,e.val with
 | .str k _,.str v _=>some (k,v)
 | _,_=>none
theorem ents_pairs{prog:Program}{w:World}{l:List DictEntry}:StrEnts w.params l→(∀ e∈l,∃ x,(PySem.strKind prog w).is x e.key=true∧e.hash=PyData.keyHash w.params x)∧∃ ps:List (Str×Value),Pairs (PySem.strKind prog w) l ps∧ps.map (·.1)=(l.filterMap entStr).map (·.1)∧StrsAre (ps.map (·.2)) ((l.filterMap entStr).map (·.2))∧ps.length=l.length:=by
 induction l with
 | nil=>exact fun ι=>⟨fun ι h=>(nomatch h),[],.nil,rfl,.nil,rfl⟩
 | cons e l ih =>
  intro hh
  obtain ⟨⟨x,t,y,u,h1,h2,h3⟩,h⟩:=hh
  obtain ⟨g1,ps,g2,g3,g4,g5⟩:=ih h
  have es:entStr e=some (x,y):=by unfold entStr; rw[h1,h3]
  refine ⟨fun e' he => ?_,(x,e.val)::ps,.cons (by rw[h1]; exact strKind_is prog w x t) rfl g2,?_,?_,congrArg (· + 1) g5⟩
  ·rcases List.mem_cons.mp he with rfl | he
   ·exact ⟨x,by rw[h1]; exact strKind_is prog w x t,h2⟩
   ·exact g1 e' he
  ·rw[List.filterMap_cons,es]; exact congrArg (x :: ·) g3
  ·rw[List.filterMap_cons,es,List.map_cons,h3]
   exact .cons _ _ g4
set_option tactic.hygienic true in
theorem ints_rep{vs:List Value}{is:List Int}(h:IntsAre vs is):∀ n ρ h',RepL n ρ h' vs (is.map .int):=fun n ρ h'=>by
 induction h with
 | nil=>exact .nil
 | cons _ ih=>rename_i ih; exact .cons (.int _ _) ih
set_option tactic.hygienic true in
theorem glue03(hlaw:∀ (P:Params) (sa:Addr) (is:List Int),is.length≤63→∃ H',Ev (cfg3 P sa is).pe 150 (.c (.fn 206) [.fn sa] [] H0) (.v (.bool true) H')∧H'.f 0 = .tab 123 lamName):PySem.Challenge.rw_dr0138_03.Holds:=by
 refine hd ?_
 intro w s₀ s₁ mg mb G Y fa o pm cd doc dV kV ho hd hcd hD hmg hg args vals as hpre hlay hrd hwl hlo
 have KX:=km_in_of Y
 have hT8:=km_tabs_of Y
 clear hcd hD hd ho
 refine Ground.open G ?_
 intro T B D TE TW
 wrow_args hpre hlay hrd hwl hlo
 rename_i is _ _ _ _ _ _ _ sa vs _ hL _ _ _ hI _ hlen _
 have hfa:fa=206:=by
  have h1:=mg_of KX T.g (law_at w.params sa is)
  have h2:mg "law"=some (.ref fa):=hmg
  rw[h1] at h2
  cases h2; rfl
 subst hfa
 clear hmg
 have hT:TabsAt [(125,123)] s₁.heap:=fun q hq=>by
  rw[List.mem_singleton] at hq; subst hq
  exact ⟨codeHd_of_K KX (code_ok w.params sa is),hT8 123 (by simp)⟩
 have hl63:is.length≤63:=by
  have:=hlen; trivial
 obtain ⟨H',hev,hf0⟩:=hlaw w.params sa is hl63
 have GT:=ghost_top hT T
 let cx:Cx:=⟨PySem.Challenge.rw_dr0138_03.row.prog,w,ghostOf s₁.heap [(125,123)],s₁.os,hd.heap_39 w.params,(cfg3 w.params sa is).lamT⟩
 have KG:(hd.heap_39 w.params).In cx.g:=ghost_K hT KX (noTabs_ok w.params sa is)
 have hst:HasSys cx:=by
  obtain ⟨mc,⟨o,_,_,e,_⟩,_⟩:=GT.nodigits
  exact ⟨o,e⟩
 have PK:PeOk (cfg3 w.params sa is).pe cx:=by
  refine peOk_of (c:=cfg3 w.params sa is) (mg:=mg) (mb:=mb) rfl rfl KG GT.g GT.b T.builtins GT.nolimit hst (init_ok w.params sa is) (cls_ok w.params sa is) ?_ ?_ ?_ (sig_all _ _ _ KG) (gen_ok _ _ _ KG)
  ·intro sc a P q h
   have h':(if sc=(fdAt (hd.heap_39 w.params) 126).scope.names then some ((125:Addr),(123:Addr),lamName) else none)=some (a,P,q):=h
   split at h'
   ·first | contradiction | cases h'
    refine ⟨(ghost_code hT).1,mg,GT.g,?_,by decide⟩
    obtain ⟨bm,ob,b1,b2,b3,b4,b5,b6⟩:=GT.bmain
    refine ⟨bm,ob,b1,b2,fun q => ?_,fun q => ?_,b3,b4,b5,b6⟩
    ·obtain ⟨o,es,ep,ho,hd,_⟩:=GT.g
     rw[← q,b3] at ho; first | contradiction | cases ho
     rw[b6] at hd; first | contradiction | cases hd
    ·rw[q,show (ghostOf s₁.heap [(125,123)]).get? 123=none from hideAll_none _ (by simp)] at b3
     cases b3
   ·first | contradiction | cases h'
  ·intro a l h
   have h':some ((44:Addr),strsAt (hd.heap_39 w.params) 44)=some (a,l):=h
   cases h'
   refine ⟨list_ok w.params sa is,map_ok w.params sa is,?_⟩
   have hl:(hd.heap_39 w.params).lookup 44=some ⟨.type "dict",none,.dict (esAt (hd.heap_39 w.params) 44) (epAt (hd.heap_39 w.params) 44),#[]⟩:=by kernel_rfl
   have hE:StrEnts w.params (esAt (hd.heap_39 w.params) 44).toList:=⟨⟨_,_,_,_,rfl,rfl,rfl⟩,⟨_,_,_,_,rfl,rfl,rfl⟩,⟨_,_,_,_,rfl,rfl,rfl⟩,⟨_,_,_,_,rfl,rfl,rfl⟩,⟨_,_,_,_,rfl,rfl,rfl⟩,⟨_,_,_,_,rfl,rfl,rfl⟩,⟨_,_,_,_,rfl,rfl,rfl⟩,trivial⟩
   obtain ⟨g1,ps,g2,g3,g4,g5⟩:=ents_pairs (prog:=PySem.Challenge.rw_dr0138_03.row.prog) hE
   have hs:strsAt (hd.heap_39 w.params) 44=(esAt (hd.heap_39 w.params) 44).toList.filterMap entStr:=by kernel_rfl
   have hz:(esAt (hd.heap_39 w.params) 44).toList.length=7:=by kernel_rfl
   have hn:(((esAt (hd.heap_39 w.params) 44).toList.filterMap entStr).map (·.1)).Nodup:=by
    have:decide (((esAt (hd.heap_39 w.params) 44).toList.filterMap entStr).map (·.1)).Nodup=true:=by kernel_rfl
    simpa using this
   refine ⟨ps,by decide,by trivial,⟨_,_,_,KG _ _ hl,⟨rfl,rfl,rfl⟩,rfl,fun e he=>g1 e (Array.mem_toList_iff.mpr he),g2,by rw[g3]; exact hn⟩,by rw[hs]; exact g3,by rw[hs]; exact g4⟩
  ·intro a js h
   have h':(if a=sa then some is else none)=some js:=h
   split at h'
   ·rename_i e
    subst e; cases h'
    exact ⟨by trivial,vs.toArray,ghost_list hT hL,fun n ρ h=>by simpa using ints_rep hI n ρ h⟩
   ·first | contradiction | cases h'
 have I0:Inv cx (fun ι=>123) H0 s₁:=by
  refine ⟨fun b o e=>of_hideAll _ e,rfl,.of_eq hg,fun i hi => ?_,fun i j hi hj ι => ?_,fun i hi=>hideAll_none _ (by simp),hst,fun i hi=>by decide⟩
  ·exact ⟨rfl,#[],(hT (125,123) (by simp)).2,trivial,fun pos cv e=>by cases e⟩
  ·have h1:i<1:=hi
   have h2:j<1:=hj
   trivial
 have go:GCall cx 150 _ _ _ _ _ _:=hev.go PK
 unfold GCall at go
 refine go (fv := .ref 206) (first:=[]) (vs:=[.ref sa]) (kvs:=[]) ⟨rfl,by decide,by decide⟩ I0 (.obj (.fn 206)) (.cons (.fn sa) .nil) ⟨rfl,.nil⟩ fun v s' ρ' S r => ?_
 have hv:=r.inv_bool
 subst hv
 have keep:∀ b o,b≠123→s₁.heap.get? b=some o→s'.heap.get? b=some o:=fun b o hb e=>S.inv.keep b o (ghost_ne e (by simpa using hb))
 have hr0:=S.inv.objs 0 (Nat.lt_of_lt_of_le (by decide) S.le)
 rw[hf0,S.agr 0 (by decide)] at hr0
 obtain ⟨_,ps,hps,_⟩:=hr0
 refine ⟨.inl ⟨_,.bool true,[],rfl,fun ι=>rfl,.bool true,?_,fun ι=>⟨.nil,fun ι h=>by simp at h⟩⟩,⟨fun b o e => ?_,fun b o e => ?_⟩,S.inv.os,S.inv.bare⟩
 ·first | wrow_post | kernel_rfl
 ·by_cases hb:b=123
  ·subst hb
   have e2:=(hT (125,123) (by simp)).2
   rw[e] at e2
   cases e2
   exact .inr (.inl ⟨((hT (125,123) (by simp)).1.tab (hT (125,123) (by simp)).2).isCodeTable,rfl,#[],ps,rfl,by rw[Array.empty_append]; exact hps⟩)
  ·exact .inl (keep b o hb e)
 ·by_cases hb:b=123
  ·subst hb; exact ⟨_,hps⟩
  ·exact ⟨o,keep b o hb e⟩
end
section
section
variable {pe:Pe} {cx:Cx} {n:Nat} {sc:Sc} {loc loc1 loc2 loc':Loc} {H H' H1 H2:Hp} {target:Expr} {body:List Stmt} {fl fl':Fl}
noncomputable def GW(cx:Cx)(n:Nat)(sc:Sc)(test:Expr)(body:List Stmt):Nat→Loc→Hp→Loc→Hp→Prop
 | 0,loc,H,loc',H'=>GT cx n sc loc test H false H'∧loc'=loc
 | k+1,loc,H,loc',H'=>Ex3 fun H1 loc2 H2=>GT cx n sc loc test H true H1∧GXs cx n sc body loc H1 .next loc2 H2∧GW cx n sc test body k loc2 H2 loc' H'
theorem x_While{test:Expr}{pos:Pos}{k:Nat}(h:GW cx n sc test body k loc H loc' H'):GX cx (n+1) sc (.While test body [] pos) loc H .next loc' H':=fun {A env ρ s Q E} C hQ=>by
 refine wpAny_While (codeAny_whileLoop (fun m s'=>Ex3 fun ρ1 loc1 H1=>Stp cx (Wr env) ρ H s ρ1 H1 s'∧Vars cx env H1.n ρ1 s'.heap loc1∧GW cx n sc test body m loc1 H1 loc' H') (fun m s1 I => ?_) k ⟨ρ,loc,H,Stp.refl _ C.inv,C.vars,h⟩)
 obtain ⟨ρ1,loc1,H1,S1,X1,hw⟩:=I
 have C1:Cn cx n sc loc1 H1 A env ρ1 s1:=C.low.to S1.inv X1
 cases m with
 | zero =>
  obtain ⟨h1,rfl⟩:=hw
  refine h1 C1 fun s2 ρ2 S2 => ?_
  show wpAny _ _ (execs [] env) _ _ _
  exact wpAny_execs_nil (hQ _ _ _ (Stp.seqW S1 X1 S2.toW) (X1.step S1.inv S2) .next)
 | succ m =>
  obtain ⟨H2,loc2,H3,h1,h2,h3⟩:=hw
  refine h1 C1 fun s2 ρ2 S2 => ?_
  show wpAny _ _ (execs body env) _ _ _
  have X2:=X1.step S1.inv S2
  refine h2 (C1.step S2) fun f s3 ρ3 S3 X3 rf => ?_
  cases rf
  exact ⟨m,Nat.lt_succ_self m,ρ3,loc2,H3,Stp.seqW (Stp.seqW S1 X1 S2.toW) X2 S3,X3,h3⟩
noncomputable def GForR(cx:Cx)(n:Nat)(sc:Sc)(target:Expr)(body:List Stmt)(st x:Int)(left:Nat)(loc:Loc)(H:Hp)(fl:Fl)(loc':Loc)(H':Hp):Prop :=
 ∀ {A env ρ s a} {R:Result→Shared→Prop},Cn cx n sc loc H A env ρ s→IsRangeIter s.heap a x left st→Out cx env H.n ρ s.heap a →
  (∀ f s' ρ',Stp cx (WL env [a]) ρ H s ρ' H' s'→Vars cx env H'.n ρ' s'.heap loc'→RepF H'.n ρ' s'.heap f fl→R (.ok f) s')→codeAny cx.M A (.forLoop target (.ref a) body [] env) R s
theorem ri_nf{h:Heap}{a:Addr}{x l st:Int}(it:IsRangeIter h a x l st):∃ o,h.get? a=some o∧¬ Fz o:=⟨_,it,nf_cls it (c := .type "range_iterator") rfl (by decide+kernel) _ it⟩
theorem fr_nil{st x:Int}:GForR cx n sc target body st x 0 loc H .next loc H:=fun {A env ρ s a R} C t O hR =>
 for_unroll (wpAny_pyNext_range_end C.ar.handled t (Int.le_refl 0) fun h' hs=>by
  have S2:Stp cx (· = a) ρ H s ρ H { s with heap:=h' }:=Stp.but _ C.inv rfl O.ap O.low O.nf hs rfl rfl
  exact hR _ _ _ S2.one (C.vars.same C.inv S2 O) .next)
theorem fr_cons{st x:Int}{left:Nat}(hb:bindT sc H target (.int x) loc=some loc1)(hx:GXs cx n sc body loc1 H fl loc2 H1)(hg:goesOn fl=true)(h:GForR cx n sc target body st (x+st) left loc2 H1 fl' loc' H2):GForR cx n sc target body st x (left+1) loc H fl' loc' H2:=fun {A env ρ s a R} C t O hR=>by
 refine for_unroll (wpAny_pyNext_range_item t (by trivial) fun h' it' hs => ?_)
 have S2:Stp cx (· = a) ρ H s ρ H { s with heap:=h',toks:=s.toks+1 }:=Stp.but _ C.inv rfl O.ap O.low O.nf hs.extBut rfl rfl
 have X2:=C.vars.same C.inv S2 O
 have it':IsRangeIter h' a (x+st) left st:=by
  have e:((left+1:Nat):Int)-1=left:=by trivial
  rw[e] at it'; exact it'
 have O2:Out cx env H.n ρ h' a:=⟨ri_nf it',O.ap,O.nw,O.low⟩
 refine own_skip it' rfl rfl (by decide) (bindT_sound (WrOk.wr sc env) C.ar.handled C.en hb S2.inv X2 (.int _ _) fun s3 S3 ι X3 => ?_)
 have O3:=O2.step S3 O2.nw
 have t3:IsRangeIter s3.heap a (x+st) left st:=S3.ext a _ it' O2.ap O2.nw
 refine hx (C.to S3.inv X3) fun f s4 ρ4 S4 X4 rf => ?_
 have S14:=(S2.one.seqL X2 O2.has S3.left).seqL X3 O3.has S4.left
 have O4:=O3.step S4 O3.nw
 have t4:IsRangeIter s4.heap a (x+st) left st:=S4.ext a _ t3 O3.ap O3.nw
 have go:=h (C.to S4.inv X4) t4 O4 fun f s' ρ' S5 X5 r5=>hR f s' ρ' (S14.seqL X4 O4.has S5) X5 r5
 cases rf with
 | next=>exact go
 | cont=>exact go
 | _=>exact noB hg
theorem fr_forget{st x:Int}{left:Nat}(hl:∀ y v,loc1.lookup y=some v→loc.lookup y=some v)(h:GForR cx n sc target body st x left loc1 H fl loc' H2):GForR cx n sc target body st x left loc H fl loc' H2:=fun C t O hR=>h (C.to C.inv (C.vars.congr hl)) t O hR
theorem size3{a b c:Int}(hc:0<c)(ha:0≤a)(hb:b<100000):Builtin.Range.rangeSize a b c=((if a<b then ((b-a-1)/c+1).toNat else 0:Nat):Int)∧Builtin.Range.rangeSize a b c≤100000:=by
 unfold Builtin.Range.rangeSize
 rw[if_pos hc]
 by_cases h:a<b
 ·rw[if_pos h,if_pos h]
  have h1:0≤(b-a-1)/c:=Int.ediv_nonneg (by trivial) (Int.le_of_lt hc)
  have h2:(b-a-1)/c≤b-a-1:=Int.ediv_le_self _ (by trivial)
  exact ⟨(Int.toNat_of_nonneg (Int.add_nonneg h1 (by decide))).symm,by trivial⟩
 ·rw[if_neg h,if_neg h]; trivial
theorem small3{a b c:Int}(ha:0≤a∧a<100000)(hb:0≤b∧b<100000)(hc:0<c∧c<100000):Builtin.Range.small a b c=true:=by
 obtain ⟨h1,h2⟩:=size3 hc.1 ha.1 hb.2
 have h3:0≤Builtin.Range.rangeSize a b c:=by rw[h1]; trivial
 unfold Builtin.Range.small
 generalize Builtin.Range.rangeSize a b c=z at *
 have fit:∀ {y:Int},-1000000<y→y<1000000→Builtin.Range.rangeFitsLong y=true:=fun h1 h2=>by
  simp only[Builtin.Range.rangeFitsLong,Bool.and_eq_true,decide_eq_true_eq]
  trivial
 have lo:∀ {y:Int},0≤y → -1000000<y:=fun h=>Int.lt_of_lt_of_le (by decide) h
 have hi:∀ {y:Int},y<100000→y<1000000:=fun h=>Int.lt_trans h (by decide)
 rw[fit (lo ha.1) (hi ha.2),fit (lo hb.1) (hi hb.2),fit (lo (Int.le_of_lt hc.1)) (hi hc.2),fit (lo h3) (Int.lt_of_le_of_lt h2 (by decide)),if_pos hc.1,fit (by trivial) (by trivial),Bool.or_true]
 rfl
end
structure RArgs (xs:List V) (a st:Int) (left:Nat):Prop where
 go:∀ {cx:Cx} {A:Around} {n:Nat} {ρ:Nat→Addr} {s:Shared} {ps:List Value} {Q:Value→Shared→Prop} {E:Value→Shared→Prop},RepL n ρ s.heap ps xs→(∀ (b:Int) (o:Obj) (ro:Addr) (tk:Nat) (t u v:Tok),Builtin.Range.small a b st=true→Builtin.Range.rangeSize a b st=(left:Int)→IsRange (s.heap.push o) ro a b st t u v→Q (.ref ro) { s with heap:=s.heap.push o,toks:=tk })→wpAny cx.M A (call (.type "range") ps) Q E s
theorem RArgs.one{m:Int}(hm:0≤m∧m<100000):RArgs [.int m] 0 1 m.toNat:=⟨fun ra go=>by
 obtain ⟨v,rfl,r1⟩:=ra.inv1
 obtain ⟨t,rfl⟩:=r1.inv_int
 refine call_range_1 (go m _ _ _ _ _ _ (small3 ⟨by decide,by decide⟩ hm ⟨by decide,by decide⟩) ?_ (IsRange.new ..))
 rw[rangeSize_one]
 by_cases h:0<m
 ·rw[if_pos h]; trivial
 ·rw[if_neg h]; trivial⟩
theorem RArgs.three{a b c:Int}(ha:0≤a∧a<100000)(hb:0≤b∧b<100000)(hc:0<c∧c<100000):RArgs [.int a,.int b,.int c] a c (if a<b then ((b-a-1)/c+1).toNat else 0):=⟨fun ra go=>by
 cases ra with | cons r1 rn =>
 obtain ⟨v,w,rfl,r2,r3⟩:=rn.inv2
 obtain ⟨t,rfl⟩:=r1.inv_int
 obtain ⟨u,rfl⟩:=r2.inv_int
 obtain ⟨v,rfl⟩:=r3.inv_int
 exact call_range_3 (Int.ne_of_gt hc.1) (go b _ _ _ _ _ _ (small3 ha hb hc) (size3 hc.1 ha.1 hb.2).1 (IsRange.new ..)) (.inl (PyProof.noPylong_small (natAbs_small ⟨hc.1,by trivial⟩)))⟩
section
variable {pe:Pe} {cx:Cx} {n:Nat} {sc:Sc} {loc loc1 loc2 loc':Loc} {H H' H1 H2:Hp} {target:Expr} {body:List Stmt} {fl fl':Fl}
theorem x_ForR(P:PeOk pe cx){f:Str}{fp cp pos:Pos}{args:List Expr}{xs:List V}{a st:Int}{left:Nat}(hg:look pe sc loc f=some (.bf .range))(h2:GL cx n sc loc args H xs H1)(hr:RArgs xs a st left)(h3:GForR cx n sc target body st a left loc H1 fl loc' H2):
  GX cx (n+1) sc (.For target (.Call (.Name f fp) args [] cp) body [] pos) loc H fl loc' H2:=fun {A env ρ s Q E} C hQ=>by
 refine wpAny_For ?_ (notSet_folded rfl)
 refine wpAny_Call_ofName (s_Name P hg C.en C.inv C.vars fun fv rf => ?_)
 cases rf.inv_bf
 refine s_callWith (evalArgs_sound h2 k_nil C.low fun ar s1 ρ1 S1 ra rk=>⟨kpr_of P S1.inv (.obj (.bf .range)) rfl,?_⟩)
 have C1:=C.low.step S1
 obtain ⟨ps,kw⟩:=ar
 have hkw:kw=[]:=List.map_eq_nil_iff.mp rk.names
 subst hkw
 have go:∀ (b:Int) (o:Obj) (ro:Addr) (tk:Nat) (t u v:Tok),Builtin.Range.small a b st=true→Builtin.Range.rangeSize a b st=(left:Int)→IsRange (s1.heap.push o) ro a b st t u v→wpAny cx.M A (pyIter (.ref ro)) (fun it s2=>codeAny cx.M A (.forLoop target it body [] env) (fun r s'=>match r with | .ok f=>Q f s' | .error e=>cameBackBy cx.M A env E e s') s2) E { s1 with heap:=s1.heap.push o,toks:=tk }:=fun b o ro tk t u v hsm hsz hro=>by
  have Sa:Stp cx NoW ρ1 H1 s1 ρ1 H1 { s1 with heap:=s1.heap.push o,toks:=tk }:=Stp.grown _ S1.inv (fun ι ι e=>Heap.get?_push_of_some _ e) rfl rfl
  have C2:=C1.step Sa
  have ha:(s1.heap.push o).get? (s1.heap.push o).objs.size=none:=get?_size _
  refine wpAny_pyIter_range hro hsm ?_
  rw[hsz]
  have S2:Stp cx NoW ρ1 H1 { s1 with heap:=s1.heap.push o,toks:=tk } ρ1 H1 { s1 with heap:=(s1.heap.push o).push { cls := .type "range_iterator",data := .fields #[rawInt a,rawInt left,rawInt st] },toks:=tk }:=Stp.grown _ C2.inv (fun ι ι e=>Heap.get?_push_of_some _ e) rfl rfl
  have t2:IsRangeIter ((s1.heap.push o).push { cls := .type "range_iterator",data := .fields #[rawInt a,rawInt left,rawInt st] }) (s1.heap.push o).objs.size a left st:=Heap.get?_push_size _ rfl
  refine h3 (C2.step S2) t2 (Out.fresh C2.inv C2.vars ha (ri_nf t2)) fun f s3 ρ3 S3 X3 rf=>hQ f s3 ρ3 ?_ X3 rf
  have S23:Stp cx (fun c=>Wr env c∨c=(s1.heap.push o).objs.size) ρ1 H1 { s1 with heap:=s1.heap.push o,toks:=tk } ρ3 H2 s3:=(S2.weaken fun ι f=>f.elim).transW (S3.weaken fun b q=>q.imp id List.mem_singleton.mp) fun i h1 h2 w=>by
   have hf:=S3.fresh i h1 h2
   rcases w with w | w
   ·exact (C2.step S2).vars.notW S3 i h1 h2 w
   ·obtain ⟨o,eo,_⟩:=ri_nf t2
    rw[w] at hf; exact noS (hf.symm.trans eo)
  exact ((S1.trans Sa).weaken fun ι f=>f.elim).transW (S23.dropA ha) fun i h1 h2 w=>C2.vars.notW S23 i h1 h2 w
 exact hr.go ra go
end
end
section
structure EvR (pe:Pe) (n:Nat) (sc:Sc) (target:Expr) (body:List Stmt) (st x:Int) (left:Nat) (loc:Loc) (H:Hp) (fl:Fl) (loc':Loc) (H':Hp):Prop where
 go:∀ {cx:Cx},PeOk pe cx→GForR cx n sc target body st x left loc H fl loc' H'
structure EvW (pe:Pe) (n:Nat) (sc:Sc) (test:Expr) (body:List Stmt) (k:Nat) (loc:Loc) (H:Hp) (loc':Loc) (H':Hp):Prop where
 go:∀ {cx:Cx},PeOk pe cx→GW cx n sc test body k loc H loc' H'
section
variable {pe:Pe}
theorem EvR.nil{n sc target body st x loc H}:EvR pe n sc target body st x 0 loc H .next loc H:=⟨fun ι=>fr_nil⟩
theorem EvR.cons{n sc target body st x left loc loc1 loc2 loc' H H1 H2 fl fl'}(hb:bindT sc H target (.int x) loc=some loc1)(x1:Ev pe n (.xs sc body loc1 H) (.f fl loc2 H1))(hg:goesOn fl=true)(x4:EvR pe n sc target body st (x+st) left loc2 H1 fl' loc' H2):EvR pe n sc target body st x (left+1) loc H fl' loc' H2:=⟨fun P=>fr_cons hb (x1.go P) hg (x4.go P)⟩
theorem EvR.forget{n sc target body st x left loc0 loc loc' H H2 fl}(hl:∀ y v,loc0.lookup y=some v→loc.lookup y=some v)(x1:EvR pe n sc target body st x left loc0 H fl loc' H2):EvR pe n sc target body st x left loc H fl loc' H2:=⟨fun P=>fr_forget hl (x1.go P)⟩
theorem Ev.xv_ForR{n sc loc loc' H H1 H2 f fp cp pos target args body xs a st left fl}(hg:look pe sc loc f=some (.bf .range))(x2:Ev pe n (.l sc loc args H) (.l xs H1))(hr:RArgs xs a st left)(x3:EvR pe n sc target body st a left loc H1 fl loc' H2):Ev pe (n+1) (.x sc (.For target (.Call (.Name f fp) args [] cp) body [] pos) loc H) (.f fl loc' H2):=⟨fun P=>x_ForR P hg (x2.go P) hr (x3.go P)⟩
theorem EvW.zero{n sc test body loc H H1}(x0:Ev pe n (.t sc loc test H) (.b false H1)):EvW pe n sc test body 0 loc H loc H1:=⟨fun P=>⟨x0.go P,rfl⟩⟩
theorem EvW.succ{n sc test body k loc loc2 loc' H H1 H2 H3}(x0:Ev pe n (.t sc loc test H) (.b true H1))(x1:Ev pe n (.xs sc body loc H1) (.f .next loc2 H2))(x2:EvW pe n sc test body k loc2 H2 loc' H3):EvW pe n sc test body (k+1) loc H loc' H3:=⟨fun P=>⟨_,_,_,x0.go P,x1.go P,x2.go P⟩⟩
theorem Ev.xv_While{n sc loc loc' H H1 test body pos k}(x0:EvW pe n sc test body k loc H loc' H1):Ev pe (n+1) (.x sc (.While test body [] pos) loc H) (.f .next loc' H1):=⟨fun P=>x_While (x0.go P)⟩
end
end
section
noncomputable def flat:V→Bool
 | .none=>true
 | .bool _=>true
 | .int _=>true
 | .str _=>true
 | _=>false
noncomputable def flat2:V→Bool
 | .tup xs=>xs.all flat
 | v=>flat v
section
variable {n n':Nat} {ρ ρ':Nat→Addr} {h h':Heap}
theorem flat_rep{v:Value}{x:V}(hx:flat x=true)(r:Rep n ρ h v x):Rep n' ρ' h' v x:=by
 cases r with
 | none=>exact .none
 | bool b=>exact .bool b
 | int i t=>exact .int i t
 | str s t=>exact .str s t
 | _=>exact noB hx
theorem flat_repL{vs:List Value}{xs:List V}:xs.all flat=true→RepL n ρ h vs xs→RepL n' ρ' h' vs xs:=by
 induction xs generalizing vs with
 | nil=>intro _ r; cases r; exact .nil
 | cons x xs ih =>
  intro hx r
  obtain ⟨h1,h2⟩:=Bool.and_eq_true_iff.mp (List.all_cons▸hx)
  cases r with | cons a b =>
  exact .cons (flat_rep h1 a) (ih h2 b)
theorem flat2_rep{v:Value}{x:V}(hx:flat2 x=true)(r:Rep n ρ h v x):Rep n' ρ' h v x:=by
 cases r with
 | tup e q=>exact .tup e (flat_repL hx q)
 | none=>exact .none
 | bool b=>exact .bool b
 | int i t=>exact .int i t
 | str s t=>exact .str s t
 | _=>exact noB hx
end
section
variable {cx:Cx} {n:Nat} {H H1:Hp} {a:Addr} {args:List V} {x:V}
theorem g_frame(h:GCall cx n (.fn a) args [] H0 x H1)(ha:args.all flat=true)(hx:flat2 x=true)(h1:H1.f 0=H0.f 0)(h0:H.f 0=H0.f 0)(hn:0<H.n):GCall cx n (.fn a) args [] H x H:=fun {A s ρ fv first vs kvs Q E} a1 I c ra rk hQ=>by
 cases rk.nil
 cases c with | obj rf =>
 cases rf.inv_fn
 have lt:∀ i,i<H0.n→i<H.n:=fun i hi=>Nat.lt_of_lt_of_le hi hn
 have z:∀ i,i<H0.n→i=0:=fun i hi=>Nat.lt_one_iff.mp hi
 have r0:=I.objs 0 hn
 rw[h0] at r0
 have I0:Inv cx ρ H0 s:=⟨I.keep,I.os,I.bare,fun i hi=>by cases z i hi; exact r0,fun i j hi hj=>I.inj i j (lt i hi) (lt j hj),fun i hi=>I.low i (lt i hi),I.st,fun i hi=>I.nsys i (lt i hi)⟩
 refine h a1 I0 (.obj (.fn a)) (flat_repL ha ra) ⟨rfl,.nil⟩ fun v s' ρ' S r => ?_
 have K:Kp H.n ρ s.heap H.n ρ s'.heap:=⟨Nat.le_refl _,fun ι ι=>rfl,fun b o e hz=>S.ext b o e (I0.notMut e hz) fun f=>f⟩
 refine hQ v s' ρ ⟨⟨S.inv.keep,S.inv.os,S.inv.bare,fun i hi => ?_,I.inj,I.low,I.st,I.nsys⟩,Nat.le_refl _,fun ι ι=>rfl,fun i h1 h2=>absurd h2 (Nat.not_lt.mpr h1),fun b o e hm hw=>S.ext b o e (fun i hi=>hm i (lt i hi)) hw,S.gx⟩ (flat2_rep hx r)
 by_cases hi0:i=0
 ·subst hi0
  have r1:=S.inv.objs 0 (Nat.lt_of_lt_of_le (Nat.zero_lt_one) S.le)
  rw[h1,S.agr 0 Nat.zero_lt_one] at r1
  rw[h0]; exact r1
 ·obtain ⟨ob,e,_⟩:=(I.objs i hi).some
  exact (I.objs i hi).mono K ((S.ext _ ob e (fun j hj q=>hi0 ((I.inj i j hi (lt j hj) q.symm).trans (z j hj))) fun f=>f).trans e.symm)
end
theorem Ev.frame{pe:Pe}{n:Nat}{H H1:Hp}{a:Addr}{args:List V}{x:V}(h:Ev pe n (.c (.fn a) args [] H0) (.v x H1))(ha:args.all flat=true)(hx:flat2 x=true)(h1:H1.f 0=H0.f 0)(h0:H.f 0=H0.f 0)(hn:0<H.n):Ev pe n (.c (.fn a) args [] H) (.v x H):=⟨fun P=>g_frame (h.go P) ha hx h1 h0 hn⟩
end
open Mine.Ev Mine.Prm Mine.PrF
section
theorem leR{a b:Nat}(h:Nat.ble a b=true):a≤b:=Nat.le_of_ble_eq_true h
noncomputable def eqS:V→V→Option Bool
 | .str a,.str b=>some (a==b)
 | .int a,.int b=>some (a==b)
 | _,_=>none
noncomputable def ltI(f:Int→Int→Bool):V→V→Option Bool
 | .int a,.int b=>some (f a b)
 | _,_=>none
noncomputable def cmpS(op:CmpOp)(a b:V):Option Bool:=match op with
 | .Eq=>eqS a b
 | .NotEq=>(eqS a b).map (!·)
 | .Lt=>ltI (fun x y=>decide (x<y)) a b
 | .Gt=>ltI (fun x y=>decide (x>y)) a b
 | .Is=>if isNone b then some (isNone a) else none
 | .IsNot=>if isNone b then some (!isNone a) else none
 | _=>none
theorem eqS_of{H:Hp}{a b:V}{t:Bool}(h:eqS a b=some t):EqV H a b t:=by
 cases a with
 | str x=>cases b with
  | str y=>cases h; exact .str
  | _=>first | exact noS h | exact noB h | cases h
 | int x=>cases b with
  | int y=>cases h; exact .int
  | _=>first | exact noS h | exact noB h | cases h
 | _=>first | exact noS h | exact noB h | cases h
theorem ltI_of{f:Int→Int→Bool}{a b:V}{t:Bool}(h:ltI f a b=some t):Ex2_3 (fun x y=>a = .int x) (fun x y=>b = .int y) (fun x y=>t=f x y):=by
 cases a with
 | int x=>cases b with
  | int y=>cases h; exact ⟨x,y,rfl,rfl,rfl⟩
  | _=>first | exact noS h | exact noB h | cases h
 | _=>first | exact noS h | exact noB h | cases h
theorem isNone_of{b:V}(h:isNone b=true):b = .none:=by
 cases b with
 | none=>rfl
 | _=>first | exact noS h | exact noB h | cases h
theorem cmpR{H:Hp}{op:CmpOp}{a b:V}{t:Bool}(h:cmpS op a b=some t):Cmp H op a b t:=by
 cases op with
 | Eq=>exact .eq (eqS_of h)
 | NotEq=>obtain ⟨r,h',rfl⟩:=map_some h; exact .ne (eqS_of h')
 | Lt=>obtain ⟨x,y,rfl,rfl,rfl⟩:=ltI_of h; exact .lt
 | Gt=>obtain ⟨x,y,rfl,rfl,rfl⟩:=ltI_of h; exact .gt
 | Is=>obtain ⟨h',rfl⟩:=ite_some h; cases isNone_of h'; exact .is
 | IsNot=>obtain ⟨h',rfl⟩:=ite_some h; cases isNone_of h'; exact .isnt
 | _=>first | exact noS h | exact noB h | cases h
noncomputable def addV:V→V→Option V
 | .str x,.str y=>if x.length+y.length≤lim then some (.str (x++y)) else none
 | .int x,.int y=>some (.int (x+y))
 | _,_=>none
noncomputable def intV(f:Int→Int→Int)(p:Int→Bool):V→V→Option V
 | .int x,.int y=>if p y=true then some (.int (f x y)) else none
 | _,_=>none
noncomputable def binS(op:Operator)(a b:V):Option V:=match op with
 | .Add=>addV a b
 | .Sub=>intV (· - ·) (fun ι=>true) a b
 | .FloorDiv=>intV (· / ·) (fun y=>decide (0<y∧y<2 ^ 30)) a b
 | .Mod=>intV (· % ·) (fun y=>decide (0<y∧y<2 ^ 30)) a b
 | _=>none
theorem addV_of{H:Hp}{a b v:V}(h:addV a b=some v):Bin H .Add a b v H:=by
 cases a with
 | str x=>cases b with
  | str y=>obtain ⟨h',rfl⟩:=ite_some h; exact .addS h'
  | _=>first | exact noS h | exact noB h | cases h
 | int x=>cases b with
  | int y=>exact Option.some.inj h ▸ .addI
  | _=>first | exact noS h | exact noB h | cases h
 | _=>first | exact noS h | exact noB h | cases h
theorem intV_of{f:Int→Int→Int}{p:Int→Bool}{a b v:V}(h:intV f p a b=some v):Ex2_4 (fun x y=>a = .int x) (fun x y=>b = .int y) (fun x y=>p y=true) (fun x y=>v = .int (f x y)):=by
 cases a with
 | int x=>cases b with
  | int y=>obtain ⟨h',rfl⟩:=ite_some h; exact ⟨x,y,rfl,rfl,h',rfl⟩
  | _=>first | exact noS h | exact noB h | cases h
 | _=>first | exact noS h | exact noB h | cases h
theorem binR{H:Hp}{op:Operator}{a b v:V}(h:binS op a b=some v):Bin H op a b v H:=by
 cases op with
 | Add=>exact addV_of h
 | Sub=>obtain ⟨x,y,rfl,rfl,_,rfl⟩:=intV_of h; exact .subI
 | FloorDiv=>obtain ⟨x,y,rfl,rfl,h',rfl⟩:=intV_of h; exact .divI (of_decide_eq_true h')
 | Mod=>obtain ⟨x,y,rfl,rfl,h',rfl⟩:=intV_of h; exact .modI (of_decide_eq_true h')
 | _=>first | exact noS h | exact noB h | cases h
noncomputable def upd(G:Nat→AObj)(i:Nat)(o:AObj):Nat→AObj:=fun j=>if j=i then o else G j
section
variable {pe:Pe} {n:Nat} {sc:Sc} {loc loc1 loc2 loc':Loc} {H H0 H1 H2:Hp} {u x:V} {p:Pos} {target:Expr} {body:List Stmt} {fl fl':Fl} {xs:List V} {src:Option Nat}
theorem asg_Name{y:Str}(h:own sc y=true):Ev pe n (.asg sc (.Name y p) u loc H) (.s (setL loc y u) H) := .asg_Bind (if_pos h)
theorem asg_Tup{ts:List Expr}{j:Nat}(h1:unp H u=some xs)(h2:bindTs sc ts xs loc=some loc'):Ev pe n (.asg sc (.Tuple ts j p) u loc H) (.s loc' H) := .asg_Bind (by
 show (unp H u).bind _=_
 rw[h1]; exact h2)
noncomputable def Turn(pe:Pe)(n:Nat)(sc:Sc)(target:Expr)(body:List Stmt)(x:V)(loc:Loc)(H:Hp)(fl:Fl)(loc':Loc)(H':Hp):Prop:=∃ loc1,bindT sc H target x loc=some loc1∧Ev pe n (.xs sc body loc1 H) (.f fl loc' H')
theorem fb(h1:bindT sc H target x loc=some loc1)(h2:Ev pe n (.xs sc body loc1 H) (.f fl loc' H1)):Turn pe n sc target body x loc H fl loc' H1:=⟨_,h1,h2⟩
theorem for_go(h1:Turn pe n sc target body x loc H fl loc2 H1)(hg:goesOn fl=true)(h2:Ev pe n (.for sc target body src H0 xs loc2 H1) (.f fl' loc' H2))(h3:stands H0 H1 src):Ev pe n (.for sc target body src H0 (x::xs) loc H) (.f fl' loc' H2):=let ⟨_,a,b⟩:=h1; .for_cons a b hg h3 h2
theorem for_end{v:V}(h1:Turn pe n sc target body x loc H (.ret v) loc' H1):Ev pe n (.for sc target body src H0 (x::xs) loc H) (.f (.ret v) loc' H1):=let ⟨_,a,b⟩:=h1; .for_ret a b
theorem stands_refl:stands H H src:=by cases src; exact trivial; rfl
theorem items_ref{i:Nat}(h:H.f i = .list xs):items H (.ref i)=some (xs,some i):=by
 show itemsO i (H.f i)=_
 rw[h]; rfl
theorem unp_ref{i:Nat}(h:H.f i = .list xs):unp H (.ref i)=some xs:=by
 show unpO (H.f i)=_
 rw[h]; rfl
theorem attr_list{i:Nat}{name:Str}{m:Pm}(h:H.f i = .list xs)(hm:listTab.lookup name=some m):attr pe H name (.ref i)=some (.bm m (.ref i)):=by
 show attrR pe H name i (H.f i)=_
 rw[h]; show (listTab.lookup name).map _=_
 rw[hm]; rfl
theorem attr_dict{i:Nat}{name:Str}{m:Pm}{kvs:List (Str×V)}(h:H.f i = .dict kvs)(hm:dictTab.lookup name=some m):attr pe H name (.ref i)=some (.bm m (.ref i)):=by
 show attrR pe H name i (H.f i)=_
 rw[h]; show (dictTab.lookup name).map _=_
 rw[hm]; rfl
theorem attr_set{i:Nat}{name:Str}{m:Pm}{ks:List Str}(h:H.f i = .set ks)(hm:setTab.lookup name=some m):attr pe H name (.ref i)=some (.bm m (.ref i)):=by
 show attrR pe H name i (H.f i)=_
 rw[h]; show (setTab.lookup name).map _=_
 rw[hm]; rfl
theorem idx_dict{i:Nat}{k:Str}{kvs:List (Str×V)}(h:H.f i = .dict kvs):index H (.ref i) (.str k)=kvs.lookup k:=by
 show idxO (H.f i) _=_
 rw[h]; rfl
theorem idx_list{i:Nat}{k:Int}(h:H.f i = .list xs):index H (.ref i) (.int k)=atIdx xs k:=by
 show idxO (H.f i) _=_
 rw[h]; rfl
theorem lk_app{l m:Loc}:∀ y v,l.lookup y=some v→(l++m).lookup y=some v:=fun y v h=>by rw[List.lookup_append,h]; rfl
theorem ifs_one{a:Expr}{b:Bool}(h:Ev pe n (.t sc loc a H) (.b b H1)):Ev pe n (.ifs sc loc [a] H) (.b b H1):=by
 cases b
 ·exact .ifs_false h
 ·exact .ifs_true h .ifs_nil
end
end
section
noncomputable def pv(p:Str×Str):V := .tup [.str p.1,.str p.2]
noncomputable def xmlU:Str:="http://www.w3.org/XML/1998/namespace"
noncomputable def xmlP:Str×Str:=(xmlU,"xml")
noncomputable def kvs3(b:Nat)(seen done:Bool):List (Str×V):=[("_write",.bm .lAppend (.ref b)),("_data",.ref (b+3)),("_with_comments",.bool false),("_strip_text",.bool false),("_exclude_attrs",.none),("_exclude_tags",.none),("_rewrite_prefixes",.bool false),("_qname_aware_tags",.none),("_find_qname_aware_attrs",.none),
 ("_declared_ns_stack",.ref (b+5)),("_ns_stack",.ref (b+6)),("_prefix_map",.ref (b+9)),("_preserve_space",.ref (b+10)),("_pending_start",.none),("_root_seen",.bool seen),("_root_done",.bool done),("_ignored_depth",.int 0)]
noncomputable def nsL:List (Str×Str):=[("http://www.w3.org/XML/1998/namespace","xml"),("http://www.w3.org/1999/xhtml","html"),("http://www.w3.org/1999/02/22-rdf-syntax-ns#","rdf"),("http://schemas.xmlsoap.org/wsdl/","wsdl"),("http://www.w3.org/2001/XMLSchema","xs"),("http://www.w3.org/2001/XMLSchema-instance","xsi"),("http://purl.org/dc/elements/1.1/","dc")]
structure S3 where
 out:List V
 dat:List V
 seen:Bool
 done:Bool
 decl:List V
 ns:List V
 told:List V
 pres:List V
noncomputable def tab3(b:Nat)(s:S3):Nat→AObj
 | 0 => .list s.out
 | 1 => .ns (kvs3 b s.seen s.done)
 | 2 => .inst 150 (b+1)
 | 3 => .list s.dat
 | 4 => .list [pv xmlP]
 | 5 => .list s.decl
 | 6 => .list s.ns
 | 7 => .list (nsL.map pv)
 | 8 => .list s.told
 | 9 => .dict []
 | 10 => .list s.pres
 | _ => .list []
noncomputable def mk3(b:Nat)(s:S3)(G:Nat→AObj)(n:Nat):Hp:=⟨fun i=>if b≤i∧i<b+11 then tab3 b s (i-b) else G i,n⟩
noncomputable def okId(b i:Nat):Prop:=i<b∨b+11≤i
section
variable {b:Nat} {s s':S3} {G:Nat→AObj} {n:Nat}
theorem at3{k:Nat}(h:k<11):(mk3 b s G n).f (b+k)=tab3 b s k:=by
 show (if b≤b+k∧b+k<b+11 then tab3 b s (b+k-b) else G (b+k))=_
 rw[if_pos ⟨Nat.le_add_right _ _,Nat.add_lt_add_left h b⟩,Nat.add_sub_cancel_left]
theorem f0:(mk3 b s G n).f b = .list s.out:=at3 (k:=0) (by decide)
theorem f1:(mk3 b s G n).f (b+1) = .ns (kvs3 b s.seen s.done):=at3 (by decide)
theorem f2:(mk3 b s G n).f (b+2) = .inst 150 (b+1):=at3 (by decide)
theorem f3:(mk3 b s G n).f (b+3) = .list s.dat:=at3 (by decide)
theorem f4:(mk3 b s G n).f (b+4) = .list [pv xmlP]:=at3 (by decide)
theorem f5:(mk3 b s G n).f (b+5) = .list s.decl:=at3 (by decide)
theorem f6:(mk3 b s G n).f (b+6) = .list s.ns:=at3 (by decide)
theorem f7:(mk3 b s G n).f (b+7) = .list (nsL.map pv):=at3 (by decide)
theorem f8:(mk3 b s G n).f (b+8) = .list s.told:=at3 (by decide)
theorem f10:(mk3 b s G n).f (b+10) = .list s.pres:=at3 (by decide)
theorem okId.out{i:Nat}(h:okId b i):¬ (b≤i∧i<b+11):=fun q=>by rcases h with h | h <;> trivial
theorem mk3_at{i:Nat}(h:okId b i):(mk3 b s G n).f i=G i:=if_neg h.out
theorem hp_ext{f g:Nat→AObj}(h:∀ i,f i=g i):(⟨f,n⟩:Hp)=⟨g,n⟩:=congrArg (fun f=>Hp.mk f n) (funext h)
theorem mk3_put{i:Nat}{o:AObj}(h:okId b i):(mk3 b s G n).put i o=mk3 b s (upd G i o) n:=hp_ext fun j=>by
 by_cases hj:b≤j∧j<b+11
 ·have hne:j≠i:=fun q=>h.out (q▸hj)
  rw[if_neg hne]
  show (if b≤j∧j<b+11 then tab3 b s (j-b) else G j)=(if b≤j∧j<b+11 then tab3 b s (j-b) else upd G i o j)
  rw[if_pos hj,if_pos hj]
 ·show (if j=i then o else if b≤j∧j<b+11 then tab3 b s (j-b) else G j)=(if b≤j∧j<b+11 then tab3 b s (j-b) else if j=i then o else G j)
  rw[if_neg hj,if_neg hj]
theorem mk3_alloc{o:AObj}(h:b+11≤n):(mk3 b s G n).alloc o=mk3 b s (upd G n o) (n+1):=by
 have:=mk3_put (n:=n) (s:=s) (G:=G) (o:=o) (.inr h:okId b n)
 exact congrArg (fun H:Hp=>Hp.mk H.f (n+1)) this
theorem mk3_own{k:Nat}{o:AObj}(hk:k<11)(h:∀ j,j<11→tab3 b s' j=if j=k then o else tab3 b s j):(mk3 b s G n).put (b+k) o=mk3 b s' G n:=hp_ext fun i=>by
 show (if i=b+k then o else if b≤i∧i<b+11 then tab3 b s (i-b) else G i)=(if b≤i∧i<b+11 then tab3 b s' (i-b) else G i)
 by_cases hi:b≤i∧i<b+11
 ·obtain ⟨j,rfl⟩:∃ j,i=b+j:=⟨i-b,(Nat.add_sub_cancel' hi.1).symm⟩
  rw[if_pos hi,if_pos hi,Nat.add_sub_cancel_left,h j (Nat.lt_of_add_lt_add_left hi.2)]
  by_cases e:j=k
  ·rw[if_pos e,if_pos (by rw[e])]
  ·rw[if_neg e,if_neg fun q=>e (Nat.add_left_cancel q)]
 ·rw[if_neg hi,if_neg hi,if_neg fun (q:i=b+k)=>hi ⟨q▸Nat.le_add_right _ _,q▸Nat.add_lt_add_left hk b⟩]
theorem lt11{P:Nat→Prop}(h:P 0∧P 1∧P 2∧P 3∧P 4∧P 5∧P 6∧P 7∧P 8∧P 9∧P 10):∀ j,j<11→P j
 | 0,_=>h.1
 | 1,_=>h.2.1
 | 2,_=>h.2.2.1
 | 3,_=>h.2.2.2.1
 | 4,_=>h.2.2.2.2.1
 | 5,_=>h.2.2.2.2.2.1
 | 6,_=>h.2.2.2.2.2.2.1
 | 7,_=>h.2.2.2.2.2.2.2.1
 | 8,_=>h.2.2.2.2.2.2.2.2.1
 | 9,_=>h.2.2.2.2.2.2.2.2.2.1
 | 10,_=>h.2.2.2.2.2.2.2.2.2.2
 | j+11,h=>absurd h (by trivial)
theorem p0{xs:List V}:(mk3 b s G n).put b (.list xs)=mk3 b { s with out:=xs } G n:=mk3_own (k:=0) (by decide) (lt11 ⟨rfl,rfl,rfl,rfl,rfl,rfl,rfl,rfl,rfl,rfl,rfl⟩)
theorem p3{xs:List V}:(mk3 b s G n).put (b+3) (.list xs)=mk3 b { s with dat:=xs } G n:=mk3_own (by decide) (lt11 ⟨rfl,rfl,rfl,rfl,rfl,rfl,rfl,rfl,rfl,rfl,rfl⟩)
theorem p5{xs:List V}:(mk3 b s G n).put (b+5) (.list xs)=mk3 b { s with decl:=xs } G n:=mk3_own (by decide) (lt11 ⟨rfl,rfl,rfl,rfl,rfl,rfl,rfl,rfl,rfl,rfl,rfl⟩)
theorem p6{xs:List V}:(mk3 b s G n).put (b+6) (.list xs)=mk3 b { s with ns:=xs } G n:=mk3_own (by decide) (lt11 ⟨rfl,rfl,rfl,rfl,rfl,rfl,rfl,rfl,rfl,rfl,rfl⟩)
theorem p8{xs:List V}:(mk3 b s G n).put (b+8) (.list xs)=mk3 b { s with told:=xs } G n:=mk3_own (by decide) (lt11 ⟨rfl,rfl,rfl,rfl,rfl,rfl,rfl,rfl,rfl,rfl,rfl⟩)
theorem p10{xs:List V}:(mk3 b s G n).put (b+10) (.list xs)=mk3 b { s with pres:=xs } G n:=mk3_own (by decide) (lt11 ⟨rfl,rfl,rfl,rfl,rfl,rfl,rfl,rfl,rfl,rfl,rfl⟩)
theorem pNs{seen done:Bool}:(mk3 b s G n).put (b+1) (.ns (kvs3 b seen done))=mk3 b { s with seen:=seen,done:=done } G n:=mk3_own (by decide) (lt11 ⟨rfl,rfl,rfl,rfl,rfl,rfl,rfl,rfl,rfl,rfl,rfl⟩)
theorem pSeen{v:Bool}:putN (mk3 b s G n) (b+1) "_root_seen" (.bool v) ((mk3 b s G n).f (b+1))=some (mk3 b { s with seen:=v } G n):=by
 rw[f1]; exact congrArg some (pNs (s:=s) (seen:=v) (done:=s.done))
theorem pDone{v:Bool}:putN (mk3 b s G n) (b+1) "_root_done" (.bool v) ((mk3 b s G n).f (b+1))=some (mk3 b { s with done:=v } G n):=by
 rw[f1]; exact congrArg some (pNs (s:=s) (seen:=s.seen) (done:=v))
end
variable {b:Nat} {s:S3} {G:Nat→AObj} {n:Nat} {P:Params} {sa:Addr} {is:List Int}
noncomputable abbrev pe3(P:Params)(sa:Addr)(is:List Int):Pe:=(cfg3 P sa is).pe
theorem init_none{f:Addr}(h:f≠150):(pe3 P sa is).init f=none:=if_neg h
theorem lk_glob{pe:Pe}{sc:Sc}{loc:Loc}{x:Str}{v:V}(h1:(x="__debug__"∨x="__classdict__")=False)(h2:sc.lookup x=some .globalImplicit)(h3:pe.glob x=some v):look pe sc loc x=some v:=by
 unfold look
 rw[if_neg (by rw[h1]; exact id),h2]; exact h3
theorem fs{nm:Str}{v:V}{m:Option Addr}(hc:(pe3 P sa is).cls 150 nm=some m)(h:(kvs3 b s.seen s.done).lookup nm=some v):fld (pe3 P sa is) (mk3 b s G n) nm (.ref (b+2))=some v:=by
 show fldR _ (mk3 b s G n) nm (b+2) ((mk3 b s G n).f (b+2))=_
 rw[f2]
 show fldN (pe3 P sa is) nm (b+2) 150 ((mk3 b s G n).f (b+1))=_
 rw[f1]
 show ((pe3 P sa is).cls 150 nm).bind (fun m=>((kvs3 b s.seen s.done).lookup nm).or (m.map fun f=>V.mt f (.ref (b+2))))=_
 rw[hc,h]; rfl
theorem fa{nm:Str}{v:V}{m:Option Addr}(hc:(pe3 P sa is).cls 150 nm=some m)(h:(kvs3 b s.seen s.done).lookup nm=some v):attr (pe3 P sa is) (mk3 b s G n) nm (.ref (b+2))=some v:=by
 show attrR _ (mk3 b s G n) nm (b+2) ((mk3 b s G n).f (b+2))=_
 rw[f2]
 show fldN (pe3 P sa is) nm (b+2) 150 ((mk3 b s G n).f (b+1))=_
 rw[f1]
 show ((pe3 P sa is).cls 150 nm).bind (fun m=>((kvs3 b s.seen s.done).lookup nm).or (m.map fun f=>V.mt f (.ref (b+2))))=_
 rw[hc,h]; rfl
theorem am{nm:Str}{f:Addr}(hc:(pe3 P sa is).cls 150 nm=some (some f))(h:(kvs3 b s.seen s.done).lookup nm=none):attr (pe3 P sa is) (mk3 b s G n) nm (.ref (b+2))=some (.mt f (.ref (b+2))):=by
 show attrR _ (mk3 b s G n) nm (b+2) ((mk3 b s G n).f (b+2))=_
 rw[f2]
 show fldN (pe3 P sa is) nm (b+2) 150 ((mk3 b s G n).f (b+1))=_
 rw[f1]
 show ((pe3 P sa is).cls 150 nm).bind (fun m=>((kvs3 b s.seen s.done).lookup nm).or (m.map fun f=>V.mt f (.ref (b+2))))=_
 rw[hc,h]; rfl
theorem fm{nm:Str}{f:Addr}(hc:(pe3 P sa is).cls 150 nm=some (some f))(h:(kvs3 b s.seen s.done).lookup nm=none):fld (pe3 P sa is) (mk3 b s G n) nm (.ref (b+2))=some (.mt f (.ref (b+2))):=by
 show fldR _ (mk3 b s G n) nm (b+2) ((mk3 b s G n).f (b+2))=_
 rw[f2]
 show fldN (pe3 P sa is) nm (b+2) 150 ((mk3 b s G n).f (b+1))=_
 rw[f1]
 show ((pe3 P sa is).cls 150 nm).bind (fun m=>((kvs3 b s.seen s.done).lookup nm).or (m.map fun f=>V.mt f (.ref (b+2))))=_
 rw[hc,h]; rfl
theorem ins{nm:Str}{m:Option Addr}(hc:(pe3 P sa is).cls 150 nm=some m):instOf (pe3 P sa is) (mk3 b s G n) nm (.ref (b+2))=some (b+1):=by
 show instO (pe3 P sa is) nm ((mk3 b s G n).f (b+2))=_
 rw[f2]
 show ((pe3 P sa is).cls 150 nm).map (fun ι=>b+1)=_
 rw[hc]; rfl
theorem body_data:(fdAt (hd.heap_39 P) 97).body = .stmts (bodyAt (hd.heap_39 P) 97):=by kernel_rfl
noncomputable def sc_data:Sc:=[("self",.local),("data",.local)]
theorem nm_data:(fdAt (hd.heap_39 P) 97).scope.names=sc_data:=by kernel_rfl
theorem t_data{k:Nat}{x:Str}(h6:s.dat.length<lim):
  Ev (pe3 P sa is) (k+12) (.c (.mt 97 (.ref (b+2))) [.str x] [] (mk3 b s G n)) (.v .none (mk3 b { s with dat:=s.dat++[.str x] } G n)):=by
 exact c_mt (run_fn (fn_data P sa is) .data body_data nm_data
  (xs_cons (xv_If (tv_Not (tv_Gen rfl (ev_Attr rfl (ev_Name rfl) (fs rfl rfl) rfl) rfl)) (xs_cons (xv_Expr rfl (ev_CallA rfl rfl (by decide) (ev_Attr rfl (ev_Name rfl) (fs rfl rfl) rfl) (attr_list f3 rfl) rfl (evL_cons rfl (ev_Name rfl) evL_nil) evKw_nil (c_bm (pv_append f3 h6 p3)))) xs_nil)) xs_nil) rfl)
end
noncomputable def sub(c:Nat)(z l:List Nat):List Nat:=l.flatMap fun k=>if k=c then z else [k]
theorem sub_free{c:Nat}{z l:List Nat}(h:c∉l):sub c z l=l:=by
 unfold sub
 induction l with
 | nil=>rfl
 | cons k l ih=>rw[List.flatMap_cons,ih fun q=>h (.tail _ q),if_neg fun (q:k=c)=>h (by rw[q]; exact .head _)]; rfl
theorem sub_join{c:Nat}{z:Str}:∀ parts:List Str,(∀ p∈parts,c∉p.cps.toList)→sub c z.cps.toList (Str.join ⟨#[c]⟩ parts).cps.toList=(Str.join z parts).cps.toList:=fun parts=>by
 induction parts with
 | nil=>exact fun ι=>rfl
 | cons p l ih =>
  intro h
  cases l with
  | nil=>exact sub_free (h p (.head _))
  | cons q r =>
   have ih:=ih fun a ha=>h a (.tail _ ha)
   show sub c z.cps.toList (p++⟨#[c]⟩++Str.join ⟨#[c]⟩ (q::r)).cps.toList=(p++z++Str.join z (q::r)).cps.toList
   rw[Str.cps_append,Str.cps_append,Array.toList_append,Array.toList_append,Str.cps_append,Str.cps_append,Array.toList_append,Array.toList_append,← ih]
   unfold sub
   rw[List.flatMap_append,List.flatMap_append]
   have e1:=sub_free (z:=z.cps.toList) (h p (.head _))
   unfold sub at e1
   rw[e1]
   congr 2
   show (if c=c then z.cps.toList else [c])++[]=_
   rw[if_pos rfl,List.append_nil]
theorem replace_sub(x z:Str)(c:Nat):(Txt.replace x ⟨#[c]⟩ z).cps.toList=sub c z.cps.toList x.cps.toList:=by
 rw[StrLaws.replace_one,← sub_join _ (StrLaws.split_free x c),StrLaws.join_split]
noncomputable def rep(v c z:Str):Str:=bif Txt.contains v c then Txt.replace v c z else v
theorem rep_sub(x z:Str)(c:Nat):(rep x ⟨#[c]⟩ z).cps.toList=sub c z.cps.toList x.cps.toList:=by
 unfold rep
 cases h:Txt.contains x ⟨#[c]⟩ with
 | true=>exact replace_sub x z c
 | false =>
  refine (sub_free fun q => ?_).symm
  replace q:c∈x.cps.toList:=q
  unfold Txt.contains at h
  rw[StrLaws.found_one] at h
  exact Bool.false_ne_true (h.symm.trans (decide_eq_true q))
noncomputable def tabC(ps:List (Nat×List Nat))(k:Nat):List Nat:=(ps.lookup k).getD [k]
noncomputable def subs:List (Nat×List Nat)→List Nat→List Nat
 | [],l=>l
 | (c,z)::r,l=>subs r (sub c z l)
noncomputable def tabOk:List (Nat×List Nat)→Bool
 | []=>true
 | (_,z)::r=>(z.all fun k=>(r.lookup k).isNone)&&tabOk r
theorem tab_fix{r:List (Nat×List Nat)}{z:List Nat}(h:z.all (fun k=>(r.lookup k).isNone)=true):z.flatMap (tabC r)=z:=by
 induction z with
 | nil=>rfl
 | cons k z ih =>
  obtain ⟨h1,h2⟩:=Bool.and_eq_true_iff.mp (List.all_cons▸h)
  rw[List.flatMap_cons,ih h2]
  unfold tabC
  rw[Option.isNone_iff_eq_none.mp h1]; rfl
theorem subs_flat{ps:List (Nat×List Nat)}:∀ {l:List Nat},tabOk ps=true→subs ps l=l.flatMap (tabC ps):=by
 induction ps with
 | nil=>exact fun {l} ι=>(List.flatMap_singleton' l).symm
 | cons p r ih =>
  intro l h
  obtain ⟨h1,h2⟩:=Bool.and_eq_true_iff.mp (show ((p.2.all fun k=>(r.lookup k).isNone)&&tabOk r)=true from h)
  show subs r (sub p.1 p.2 l)=_
  rw[ih h2]
  unfold sub
  rw[List.flatMap_assoc]
  refine congrArg (fun f=>l.flatMap f) (funext fun k => ?_)
  by_cases e:k=p.1
  ·rw[if_pos e,tab_fix h1]
   unfold tabC
   rw[List.lookup_cons,beq_iff_eq.mpr e]; rfl
  ·rw[if_neg e]
   show tabC r k++[]=_
   rw[List.append_nil]
   unfold tabC
   rw[List.lookup_cons,beq_false_of_ne e]
theorem flat_len{f:Nat→List Nat}{b:Nat}(h:∀ k,(f k).length≤b)(l:List Nat):(l.flatMap f).length≤b*l.length:=by
 induction l with
 | nil=>exact Nat.zero_le _
 | cons k l ih =>
  rw[List.flatMap_cons,List.length_append,List.length_cons,Nat.mul_succ]
  have:=h k
  trivial
section
theorem ca_fn{pe:Pe}{a:Addr}{fd:FuncData}(h:pe.fn a=some fd):callable pe (.fn a)=true:=Bool.or_eq_true_iff.mpr (.inl (Option.isSome_iff_exists.mpr ⟨fd,h⟩))
theorem ca_mt{pe:Pe}{a:Addr}{x:V}{fd:FuncData}(h:pe.fn a=some fd):callable pe (.mt a x)=true:=Option.isSome_iff_exists.mpr ⟨fd,h⟩
noncomputable def chn(ps:List (Nat×Str))(x:Str):Str:=ps.foldl (fun v p=>rep v ⟨#[p.1]⟩ p.2) x
noncomputable def lst(ps:List (Nat×Str)):List (Nat×List Nat):=ps.map fun p=>(p.1,p.2.cps.toList)
theorem chn_list(ps:List (Nat×Str)):∀ x:Str,(chn ps x).cps.toList=subs (lst ps) x.cps.toList:=by
 induction ps with
 | nil=>exact fun ι=>rfl
 | cons p r ih =>
  intro x
  show (chn r (rep x ⟨#[p.1]⟩ p.2)).cps.toList=subs (lst r) (sub p.1 p.2.cps.toList x.cps.toList)
  rw[ih,rep_sub]
theorem mem_lk{β:Type}{k:Nat}{b:β}{l:List (Nat×β)}(h:l.lookup k=some b):(k,b)∈l:=by
 induction l with
 | nil=>exact noS h
 | cons p l ih =>
  rw[List.lookup_cons] at h
  cases e:k==p.1 with
  | true=>rw[e] at h; cases h; rw[beq_iff_eq.mp e]; exact .head _
  | false=>rw[e] at h; exact .tail _ (ih h)
theorem tab_len{ps:List (Nat×List Nat)}(h:ps.all (fun p=>Nat.ble p.2.length 6)=true)(k:Nat):(tabC ps k).length≤6:=by
 unfold tabC
 cases e:ps.lookup k with
 | none=>exact Nat.le_of_ble_eq_true rfl
 | some z=>exact Nat.le_of_ble_eq_true (List.all_eq_true.mp h (k,z) (mem_lk e))
theorem strLen(x:Str):x.length=x.cps.toList.length:=by show x.cps.size=_; simp
theorem chn_len{ps:List (Nat×Str)}{x:Str}(h1:tabOk (lst ps)=true)(h2:(lst ps).all (fun p=>Nat.ble p.2.length 6)=true):(chn ps x).length≤6*x.length:=by
 rw[strLen,strLen,chn_list,subs_flat h1]
 exact flat_len (tab_len h2) _
noncomputable def psC:List (Nat×Str):=[(38,"&amp;"),(60,"&lt;"),(62,"&gt;"),(13,"&#xD;")]
noncomputable def psA:List (Nat×Str):=[(38,"&amp;"),(60,"&lt;"),(34,"&quot;"),(9,"&#x9;"),(10,"&#xA;"),(13,"&#xD;")]
noncomputable def escC(x:Str):Str:=chn psC x
noncomputable def escA(x:Str):Str:=chn psA x
noncomputable def sc_esc:Sc:=[("text",.local),("TypeError",.globalImplicit),("AttributeError",.globalImplicit),("_raise_serialization_error",.globalImplicit)]
variable {P:Params} {sa:Addr} {is:List Int}
theorem nm_ecd:(fdAt (hd.heap_39 P) 161).scope.names=sc_esc:=by kernel_rfl
theorem body_ecd:(fdAt (hd.heap_39 P) 161).body = .stmts (bodyAt (hd.heap_39 P) 161):=by kernel_rfl
theorem nm_eat:(fdAt (hd.heap_39 P) 168).scope.names=sc_esc:=by kernel_rfl
theorem body_eat:(fdAt (hd.heap_39 P) 168).body = .stmts (bodyAt (hd.heap_39 P) 168):=by kernel_rfl
theorem esc_loc{v c z:Str}:(bif Txt.contains v c then setL [("text",.str v)] "text" (.str (Txt.replace v c z)) else [("text",.str v)])=([("text",.str (rep v c z))]:Loc):=by
 unfold rep
 cases Txt.contains v c <;> rfl
theorem esc_room{v z:Str}{m:Nat}(h:v.length≤6*m)(hm:m≤100000)(hz:z.length≤6):v.length+(v.length+1)*z.length≤lim:=by
 have e:lim=16777216:=rfl
 have:=Nat.mul_le_mul_left (v.length+1) hz
 trivial
theorem x_step{k:Nat}{H:Hp}{x:Str}{p:Nat×Str}{ps:List (Nat×Str)}{k1 k2 k3:Nat}{p1 p2 p3 p4 p5 p6 p7 p8 p9 p10 p11:Pos}(hp:p6.endLine=p9.line)(hx:x.length≤100000)(hc:((⟨#[p.1]⟩:Str)==p.2)=false)(hz:p.2.length≤6)(h1:tabOk (lst ps)=true)(h2:(lst ps).all (fun p=>Nat.ble p.2.length 6)=true):
  Ev (pe3 P sa is) (k+1) (.x sc_esc (.If (.Compare (.Constant (.str ⟨#[p.1]⟩) k1 p1) [.In] [.Name "text" p2] p3) [.Assign [.Name "text" p4] (.Call (.Attribute (.Name "text" p5) "replace" p6) [.Constant (.str ⟨#[p.1]⟩) k2 p7,.Constant (.str p.2) k3 p8] [] p9) p10] [] p11) [("text",.str (chn ps x))] H) (.f .next [("text",.str (chn (ps++[p]) x))] H):=by
 have e:chn (ps++[p]) x=rep (chn ps x) ⟨#[p.1]⟩ p.2:=by unfold chn; rw[List.foldl_append]; rfl
 rw[e]
 exact xv_Esc rfl rfl hp hc (esc_room (chn_len h1 h2) hx hz) esc_loc
theorem t_ecd{k:Nat}{H:Hp}{x:Str}(h:x.length≤100000):Ev (pe3 P sa is) (k+12) (.c (.fn 161) [.str x] [] H) (.v (.str (escC x)) H):=by
 exact c_fn (init_none (by decide)) (run_fn (fn_ecd P sa is) .ecd body_ecd nm_ecd (xs_stop (xv_Try (xs_cons (x_step (p:=(38,"&amp;")) (ps:=[]) rfl h rfl (leR rfl) rfl rfl) (xs_cons (x_step (p:=(60,"&lt;")) (ps:=[(38,"&amp;")]) rfl h rfl (leR rfl) rfl rfl) (xs_cons (x_step (p:=(62,"&gt;")) (ps:=[(38,"&amp;"),(60,"&lt;")]) rfl h rfl (leR rfl) rfl rfl) (xs_cons (x_step (p:=(13,"&#xD;")) (ps:=[(38,"&amp;"),(60,"&lt;"),(62,"&gt;")]) rfl h rfl (leR rfl) rfl rfl) (xs_stop (xv_Ret (ev_Name rfl)) rfl)))))) rfl) rfl)
theorem t_eat{k:Nat}{H:Hp}{x:Str}(h:x.length≤100000):Ev (pe3 P sa is) (k+12) (.c (.fn 168) [.str x] [] H) (.v (.str (escA x)) H):=by
 exact c_fn (init_none (by decide)) (run_fn (fn_eat P sa is) .eat body_eat nm_eat (xs_stop (xv_Try (xs_cons (x_step (p:=(38,"&amp;")) (ps:=[]) rfl h rfl (leR rfl) rfl rfl) (xs_cons (x_step (p:=(60,"&lt;")) (ps:=[(38,"&amp;")]) rfl h rfl (leR rfl) rfl rfl) (xs_cons (x_step (p:=(34,"&quot;")) (ps:=[(38,"&amp;"),(60,"&lt;")]) rfl h rfl (leR rfl) rfl rfl) (xs_cons (x_step (p:=(9,"&#x9;")) (ps:=[(38,"&amp;"),(60,"&lt;"),(34,"&quot;")]) rfl h rfl (leR rfl) rfl rfl) (xs_cons (x_step (p:=(10,"&#xA;")) (ps:=[(38,"&amp;"),(60,"&lt;"),(34,"&quot;"),(9,"&#x9;")]) rfl h rfl (leR rfl) rfl rfl) (xs_cons (x_step (p:=(13,"&#xD;")) (ps:=[(38,"&amp;"),(60,"&lt;"),(34,"&quot;"),(9,"&#x9;"),(10,"&#xA;")]) rfl h rfl (leR rfl) rfl rfl) (xs_stop (xv_Ret (ev_Name rfl)) rfl)))))))) rfl) rfl)
end
section
noncomputable def cat:List Str→Str
 | []=>Str.empty
 | x::r=>x++cat r
theorem cat_app(a b:List Str):cat (a++b)=cat a++cat b:=by
 induction a with
 | nil=>exact (Str.empty_append _).symm
 | cons x a ih =>
  show x++cat (a++b)=x++cat a++cat b
  rw[ih,Str.append_assoc]
theorem cat_one(x:Str):cat [x]=x:=Str.append_empty x
theorem join_cat(l:List Str):Str.join Str.empty l=cat l:=by
 induction l with
 | nil=>rfl
 | cons x l ih=>cases l with
  | nil=>exact (cat_one x).symm
  | cons y r =>
   show x++Str.empty++Str.join Str.empty (y::r)=x++cat (y::r)
   rw[ih,Str.append_empty]
theorem tjoin_cat(l:List Str):Txt.join Str.empty l=cat l:=(StrLaws.glued_eq_join _ l).trans (join_cat l)
theorem fold_len(l:List Str):∀ a:Nat,l.foldl (fun n x=>n+x.length+Str.empty.length) a=a+(cat l).length:=by
 induction l with
 | nil=>exact fun ι=>rfl
 | cons x r ih =>
  intro a
  show r.foldl _ (a+x.length+0)=a+(x++cat r).length
  rw[ih,Str.length_append]; trivial
theorem joinOk{l:List Str}(h:(cat l).length≤10000000):JoinOk Str.empty l=true:=by
 unfold JoinOk
 have e2:l.toArray.foldl (fun n x=>n+x.length+Str.empty.length) 0=(cat l).length:=by
  rw[List.foldl_toArray,fold_len,Nat.zero_add]
 rw[e2]
 exact (Bool.not_eq_true' _).mpr (decide_eq_false (Nat.not_lt.mpr (Nat.le_trans h (by decide))))
theorem tr_strT{H:Hp}{p:Str}(hl:p.length≤lim)(h:p.length≠0):truth H (.str p)=some true:=(if_pos hl).trans (congrArg some (bne_iff_ne.mpr h))
theorem tr_strF{H:Hp}{p:Str}(h:p.length=0):truth H (.str p)=some false:=(if_pos (by rw[h]; exact Nat.zero_le _)).trans (congrArg some (by rw[h]; rfl))
theorem toLim{x:Nat}(h:x≤10000000):x≤lim:=Nat.le_trans h (by decide)
variable {b:Nat} {s:S3} {G:Nat→AObj} {n:Nat} {P:Params} {sa:Addr} {is:List Int}
theorem glob_ecd:(pe3 P sa is).glob "_escape_cdata_c14n"=some (.fn 161):=by kernel_rfl
theorem glob_eat:(pe3 P sa is).glob "_escape_attrib_c14n"=some (.fn 168):=by kernel_rfl
theorem glob_len:(pe3 P sa is).glob "len"=some (.bf .len):=by kernel_rfl
noncomputable def sc_flush:Sc:=[("self",.local),("_join_text",.local),("data",.local),("args",.local),("qname_text",.local),("_looks_like_prefix_name",.globalImplicit),("_escape_cdata_c14n",.globalImplicit)]
theorem nm_flush:(fdAt (hd.heap_39 P) 106).scope.names=sc_flush:=by kernel_rfl
theorem body_flush:(fdAt (hd.heap_39 P) 106).body = .stmts (bodyAt (hd.heap_39 P) 106):=by kernel_rfl
noncomputable def flO(x:Str):List V:=if x.length=0 then [] else [.str (escC x)]
theorem strsOf_map(l:List Str):strsOf (l.map .str)=some l:=by
 induction l with
 | nil=>rfl
 | cons a l ih=>exact congrArg (Option.map (a :: ·)) ih
theorem escA_len{x:Str}(h:x.length≤100000):(escA x).length≤600000:=Nat.le_trans (chn_len rfl rfl) (by trivial)
theorem sLen(a b:Str):(a++b).length=a.length+b.length:=Str.length_append a b
theorem joinC{k:Nat}{sc:Sc}{loc:Loc}{H H1:Hp}{c:Str}{j:Nat}{p:Pos}{es:List Expr}{out t:Str}(hl:out.length≤1000000∧c.length≤1000)(h:Ev (pe3 P sa is) (k+1) (.join sc loc es (out++c) H) (.v (.str t) H1)):Ev (pe3 P sa is) (k+1) (.join sc loc (.Constant (.str c) j p::es) out H) (.v (.str t) H1) :=
 join_cons (ev_Const rfl) (toLim (by trivial)) h
theorem joinF{k:Nat}{sc:Sc}{loc:Loc}{H H1 H2:Hp}{x:Str}{p:Pos}{a:Expr}{es:List Expr}{out t:Str}(h0:Ev (pe3 P sa is) k (.e sc loc a H) (.v (.str x) H1))(hl:out.length≤1000000∧x.length≤1000000)(h:Ev (pe3 P sa is) (k+1) (.join sc loc es (out++x) H1) (.v (.str t) H2)):Ev (pe3 P sa is) (k+1) (.join sc loc (.FormattedValue a (-1) none p::es) out H) (.v (.str t) H2) :=
 join_cons (ev_Fmt h0 (toLim (by trivial))) (toLim (by trivial)) h
theorem ltLim{x:Nat}(h:x≤1000000):x<lim:=Nat.lt_of_le_of_lt h (by decide)
theorem t_flush{k:Nat}{l:List Str}(hs:s.dat=l.map .str)(hseen:s.seen=true)(hx:(cat l).length≤100000)(hl:l.length≤1000)(ho:s.out.length≤100000):
  Ev (pe3 P sa is) (k+30) (.c (.mt 106 (.ref (b+2))) [] [] (mk3 b s G n)) (.v .none (mk3 b { s with dat:=[],out:=s.out++flO (cat l) } G n)):=by
 have hj:Prm (mk3 b s G n) .tJoin (.str "") [.ref (b+3)] (.str (cat l)) (mk3 b s G n):=by
  have:=pv_join (H:=mk3 b s G n) (i:=b+3) (xs:=s.dat) (l:=l) (x:=Str.empty) f3 (by rw[hs]; exact strsOf_map l) (joinOk (by trivial))
  rw[tjoin_cat] at this; exact this
 have hll:s.dat.length≤lim:=by rw[hs,List.length_map]; exact toLim (by trivial)
 by_cases h0:(cat l).length=0
 ·rw[show flO (cat l)=[] from if_pos h0,List.append_nil]
  exact c_mt (run_fn (fn_flush P sa is) .flush body_flush nm_flush (xs_cons (xv_Asg rfl (fun ι=>rfl) (ev_CallN rfl rfl (evL_cons rfl (ev_Attr rfl (ev_Name rfl) (fs rfl rfl) rfl) evL_nil) evKw_nil (c_bm hj)) (asgs_one rfl (asg_Name rfl))) (xs_cons (xv_Del (ev_Attr rfl (ev_Name rfl) (fs rfl rfl) rfl) f3 hll p3) (xs_cons (xv_If (tv_Bool (test_stop (tv_Gen rfl (ev_Attr rfl (ev_Name rfl) (fs rfl rfl) rfl) rfl) rfl)) xs_nil) (xs_cons (xv_If (tv_Cmp rfl (ev_Attr rfl (ev_Name rfl) (fs rfl rfl) rfl) (ev_Const rfl) (cmpR rfl)) xs_nil) (xs_cons (xv_If (tv_Bool (test_stop (tv_Gen rfl (ev_Name rfl) (tr_strF h0)) rfl)) xs_nil) xs_nil))))) rfl)
 ·rw[show flO (cat l)=[.str (escC (cat l))] from if_neg h0]
  exact c_mt (run_fn (fn_flush P sa is) .flush body_flush nm_flush (xs_cons (xv_Asg rfl (fun ι=>rfl) (ev_CallN rfl rfl (evL_cons rfl (ev_Attr rfl (ev_Name rfl) (fs rfl rfl) rfl) evL_nil) evKw_nil (c_bm hj)) (asgs_one rfl (asg_Name rfl))) (xs_cons (xv_Del (ev_Attr rfl (ev_Name rfl) (fs rfl rfl) rfl) f3 hll p3) (xs_cons (xv_If (tv_Bool (test_stop (tv_Gen rfl (ev_Attr rfl (ev_Name rfl) (fs rfl rfl) rfl) rfl) rfl)) xs_nil) (xs_cons (xv_If (tv_Cmp rfl (ev_Attr rfl (ev_Name rfl) (fs rfl rfl) rfl) (ev_Const rfl) (cmpR rfl)) xs_nil) (xs_cons (xv_If (tv_Bool (test_go (tv_Gen rfl (ev_Name rfl) (tr_strT (toLim (by trivial)) h0)) rfl (test_go (tv_Gen rfl (ev_Attr rfl (ev_Name rfl) (fs (v := .bool true) rfl (by rw[← hseen]; rfl)) rfl) rfl) rfl test_nil)))
   (xs_cons (xv_Expr rfl (ev_CallA rfl rfl (by decide) (ev_Name rfl) (fa rfl rfl) rfl (evL_cons rfl (ev_CallN (lk_glob (by decide) rfl glob_ecd) (ca_fn (fn_ecd P sa is)) (evL_cons rfl (ev_Name rfl) evL_nil) evKw_nil (t_ecd hx)) evL_nil) evKw_nil (c_bm (pv_append f0 (ltLim (by trivial)) p0)))) xs_nil)) xs_nil))))) rfl)
end
section
noncomputable def hS(b:Nat)(os:List AObj)(G:Nat→AObj):Hp:=⟨fun i=>if b≤i∧i<b+os.length then os.getD (i-b) (.list []) else G i,b+os.length⟩
section
variable {b:Nat} {os:List AObj} {G:Nat→AObj} {o:AObj} {k:Nat}
theorem hS_at(h:os[k]? = some o):(hS b os G).f (b+k)=o:=by
 have hl:k<os.length:=(List.getElem?_eq_some_iff.mp h).1
 show (if b≤b+k∧b+k<b+os.length then os.getD (b+k-b) (.list []) else G (b+k))=_
 rw[if_pos ⟨Nat.le_add_right _ _,Nat.add_lt_add_left hl b⟩,Nat.add_sub_cancel_left,List.getD_eq_getElem?_getD,h]; rfl
theorem hS_alloc:(hS b os G).alloc o=hS b (os++[o]) G:=by
 have e:(os++[o]).length=os.length+1:=List.length_append
 show (⟨_,_⟩:Hp)=⟨_,_⟩
 rw[e]
 refine congrArg (fun f=>Hp.mk f (b+os.length+1)) (funext fun i => ?_)
 show (if i=b+os.length then o else if b≤i∧i<b+os.length then os.getD (i-b) (.list []) else G i)=if b≤i∧i<b+(os.length+1) then (os++[o]).getD (i-b) (.list []) else G i
 by_cases h1:i=b+os.length
 ·rw[if_pos h1,h1,if_pos ⟨Nat.le_add_right _ _,Nat.add_lt_add_left (Nat.lt_succ_self _) b⟩,Nat.add_sub_cancel_left,List.getD_eq_getElem?_getD,List.getElem?_concat_length]; rfl
 ·rw[if_neg h1]
  by_cases h2:b≤i∧i<b+os.length
  ·rw[if_pos h2,if_pos ⟨h2.1,Nat.lt_succ_of_lt h2.2⟩,List.getD_eq_getElem?_getD,List.getD_eq_getElem?_getD,List.getElem?_append_left (Nat.sub_lt_left_of_lt_add h2.1 h2.2)]
  ·rw[if_neg h2,if_neg fun q=>h2 ⟨q.1,Nat.lt_of_le_of_ne (Nat.le_of_lt_succ q.2) h1⟩]
theorem hS_put(h:k<os.length):(hS b os G).put (b+k) o=hS b (os.set k o) G:=by
 have e:(os.set k o).length=os.length:=List.length_set
 show (⟨_,_⟩:Hp)=⟨_,_⟩
 rw[e]
 refine congrArg (fun f=>Hp.mk f (b+os.length)) (funext fun i => ?_)
 show (if i=b+k then o else if b≤i∧i<b+os.length then os.getD (i-b) (.list []) else G i)=if b≤i∧i<b+os.length then (os.set k o).getD (i-b) (.list []) else G i
 by_cases h1:i=b+k
 ·rw[if_pos h1,h1,if_pos ⟨Nat.le_add_right _ _,Nat.add_lt_add_left h b⟩,Nat.add_sub_cancel_left,List.getD_eq_getElem?_getD,List.getElem?_set_self h]; rfl
 ·rw[if_neg h1]
  by_cases h2:b≤i∧i<b+os.length
  ·rw[if_pos h2,if_pos h2,List.getD_eq_getElem?_getD,List.getD_eq_getElem?_getD,List.getElem?_set_ne fun e=>h1 (by rw[e,Nat.add_sub_cancel' h2.1])]
  ·rw[if_neg h2,if_neg h2]
end
variable {b:Nat} {s:S3} {G:Nat→AObj} {n:Nat} {P:Params} {sa:Addr} {is:List Int}
theorem nsm_eq:(pe3 P sa is).nsm=some nsL:=by kernel_rfl
noncomputable def sc_init:Sc:=[("self",.local),("write",.local),("with_comments",.local),("strip_text",.local),("rewrite_prefixes",.local),("qname_aware_tags",.local),("qname_aware_attrs",.local),("exclude_attrs",.local),("exclude_tags",.local),("set",.globalImplicit),("list",.globalImplicit),("_namespace_map",.globalImplicit)]
theorem nm_init:(fdAt (hd.heap_39 P) 67).scope.names=sc_init:=by kernel_rfl
theorem body_init:(fdAt (hd.heap_39 P) 67).body = .stmts (bodyAt (hd.heap_39 P) 67):=by kernel_rfl
theorem init_some:(pe3 P sa is).init 150=some 67:=by kernel_rfl
noncomputable def s0(b:Nat):S3:=⟨[],[],false,false,[.ref (b+4)],[.ref (b+7),.ref (b+8)],[],[.bool false]⟩
noncomputable def ik(b i:Nat):List (Str×V):=(kvs3 b false false).take i
noncomputable abbrev hI(b:Nat)(kvs:List (Str×V))(os:List AObj)(G:Nat→AObj):Hp:=hS b (.list [] :: .ns kvs :: .inst 150 (b+1)::os) G
noncomputable abbrev locI(b:Nat):Loc:=[("self",.ref (b+2)),("write",.bm .lAppend (.ref b)),("with_comments",.bool false),("strip_text",.bool false),("rewrite_prefixes",.bool false),("qname_aware_tags",.none),("qname_aware_attrs",.none),("exclude_attrs",.none),("exclude_tags",.none)]
theorem x_self{k:Nat}{kvs kvs':List (Str×V)}{os os':List AObj}{name:Str}{c:Option Addr}{a:Expr}{v:V}{p1 p2 p3:Pos}(hc:isCompE a=false)(hw:∀ env,swappedStores [.Attribute (.Name "self" p1) name p2] a env=pure none)(h1:Ev (pe3 P sa is) (k+1) (.e sc_init (locI b) a (hI b kvs os G)) (.v v (hI b kvs os' G)))(hcl:(pe3 P sa is).cls 150 name=some c)(hl:kvs.length<1000)(hs:setL kvs name v=kvs'):
  Ev (pe3 P sa is) (k+2) (.x sc_init (.Assign [.Attribute (.Name "self" p1) name p2] a p3) (locI b) (hI b kvs os G)) (.f .next (locI b) (hI b kvs' os' G)):=by
 refine xv_Asg hc hw h1 (asgs_one rfl (asg_Attr (w := .ref (b+2)) (d:=b+1) (ev_Name rfl) ?_ ?_))
 ·show instO (pe3 P sa is) name ((hI b kvs os' G).f (b+2))=_
  rw[show (hI b kvs os' G).f (b+2) = .inst 150 (b+1) from hS_at rfl]
  show ((pe3 P sa is).cls 150 name).map (fun ι=>b+1)=_
  rw[hcl]; rfl
 ·rw[show (hI b kvs os' G).f (b+1) = .ns kvs from hS_at rfl]
  subst hs
  exact (if_pos hl).trans (congrArg some (hS_put (by show 1<os'.length+3; trivial)))
theorem fI{kvs:List (Str×V)}{os:List AObj}{nm:Str}{v:V}{m:Option Addr}(hc:(pe3 P sa is).cls 150 nm=some m)(h:kvs.lookup nm=some v):fld (pe3 P sa is) (hI b kvs os G) nm (.ref (b+2))=some v:=by
 show fldR _ (hI b kvs os G) nm (b+2) ((hI b kvs os G).f (b+2))=_
 rw[show (hI b kvs os G).f (b+2) = .inst 150 (b+1) from hS_at rfl]
 show fldN (pe3 P sa is) nm (b+2) 150 ((hI b kvs os G).f (b+1))=_
 rw[show (hI b kvs os G).f (b+1) = .ns kvs from hS_at rfl]
 show ((pe3 P sa is).cls 150 nm).bind (fun m=>(kvs.lookup nm).or (m.map fun f=>V.mt f (.ref (b+2))))=_
 rw[hc,h]; rfl
noncomputable def osI(b:Nat):List AObj:=[.list [],.list [pv xmlP],.list [.ref (b+4)],.list [.ref (b+7),.ref (b+8)],.list (nsL.map pv),.list [],.dict [],.list [.bool false]]
theorem t_init{k:Nat}:Ev (pe3 P sa is) (k+30) (.c (.fn 150) [.bm .lAppend (.ref b)] [] (hS b [.list []] G)) (.v (.ref (b+2)) (mk3 b (s0 b) G (b+11))):=by
 have go:Ev (pe3 P sa is) (k+29) (.xs sc_init (bodyAt (hd.heap_39 P) 67) (locI b) (hI b (ik b 0) [] G)) (.f .next (locI b) (hI b (ik b 17) (osI b) G)):=by
  exact (xs_cons (x_self (kvs:=ik b 0) (kvs':=ik b 1) rfl (fun ι=>rfl) (ev_Name rfl) rfl (leR rfl) (by kernel_rfl))
 (xs_cons (x_self (kvs:=ik b 1) (kvs':=ik b 2) (os':=(osI b).take 1) rfl (fun ι=>rfl) (ev_List evL_nil (leR rfl) hS_alloc) rfl (leR rfl) (by kernel_rfl))
 (xs_cons (x_self (kvs:=ik b 2) (kvs':=ik b 3) rfl (fun ι=>rfl) (ev_Name rfl) rfl (leR rfl) (by kernel_rfl))
 (xs_cons (x_self (kvs:=ik b 3) (kvs':=ik b 4) rfl (fun ι=>rfl) (ev_Name rfl) rfl (leR rfl) (by kernel_rfl))
 (xs_cons (x_self (kvs:=ik b 4) (kvs':=ik b 5) rfl (fun ι=>rfl) (ev_If (tv_Gen rfl (ev_Name rfl) rfl) (ev_Const rfl)) rfl (leR rfl) (by kernel_rfl))
 (xs_cons (x_self (kvs:=ik b 5) (kvs':=ik b 6) rfl (fun ι=>rfl) (ev_If (tv_Gen rfl (ev_Name rfl) rfl) (ev_Const rfl)) rfl (leR rfl) (by kernel_rfl))
 (xs_cons (x_self (kvs:=ik b 6) (kvs':=ik b 7) rfl (fun ι=>rfl) (ev_Name rfl) rfl (leR rfl) (by kernel_rfl))
 (xs_cons (xv_If (tv_Gen rfl (ev_Name rfl) rfl) (xs_cons (x_self (kvs:=ik b 7) (kvs':=ik b 8) rfl (fun ι=>rfl) (ev_Const rfl) rfl (leR rfl) (by kernel_rfl)) xs_nil))
 (xs_cons (xv_If (tv_Gen rfl (ev_Name rfl) rfl) (xs_cons (x_self (kvs:=ik b 8) (kvs':=ik b 9) rfl (fun ι=>rfl) (ev_Const rfl) rfl (leR rfl) (by kernel_rfl)) xs_nil))
 (xs_cons (x_self (kvs:=ik b 9) (kvs':=ik b 10) (os':=(osI b).take 3) rfl (fun ι=>rfl) (ev_List (H2:=hI b (ik b 9) ((osI b).take 3) G) (evL_cons rfl (ev_List (H2:=hI b (ik b 9) ((osI b).take 2) G) (evL_cons rfl (ev_Tuple (evL_cons rfl (ev_Const rfl) (evL_cons rfl (ev_Const rfl) evL_nil)) (leR rfl)) evL_nil) (leR rfl) hS_alloc) evL_nil) (leR rfl) hS_alloc) rfl (leR rfl) (by kernel_rfl))
 (xs_cons (x_self (kvs:=ik b 10) (kvs':=ik b 11) (os':=(osI b).take 3++[.list []]) rfl (fun ι=>rfl) (ev_List evL_nil (leR rfl) hS_alloc) rfl (leR rfl) (by kernel_rfl))
 (xs_cons (xv_If (tv_Not (tv_Gen rfl (ev_Name rfl) rfl)) (xs_cons (xv_Expr rfl (ev_CallA rfl rfl (by decide) (ev_Attr rfl (ev_Name rfl) (fI (v := .ref (b+6)) rfl rfl) rfl) (attr_list (xs:=[]) (hS_at rfl) rfl) rfl (evL_cons rfl (ev_NsMap (H1:=hI b (ik b 11) ((osI b).take 3++[.list [],.list (nsL.map pv)]) G) rfl rfl rfl nsm_eq hS_alloc) evL_nil) evKw_nil (c_bm (pv_append (xs:=[]) (H1:=hI b (ik b 11) ((osI b).take 3++[.list [.ref (b+7)],.list (nsL.map pv)]) G) (hS_at rfl) (leR rfl) (hS_put (leR rfl)))))) xs_nil))
 (xs_cons (xv_Expr rfl (ev_CallA rfl rfl (by decide) (ev_Attr rfl (ev_Name rfl) (fI (v := .ref (b+6)) rfl rfl) rfl) (attr_list (xs:=[.ref (b+7)]) (hS_at rfl) rfl) rfl (evL_cons rfl (ev_List (H2:=hI b (ik b 11) ((osI b).take 3++[.list [.ref (b+7)],.list (nsL.map pv),.list []]) G) evL_nil (leR rfl) hS_alloc) evL_nil) evKw_nil (c_bm (pv_append (xs:=[.ref (b+7)]) (H1:=hI b (ik b 11) ((osI b).take 6) G) (hS_at rfl) (leR rfl) (hS_put (leR rfl))))))
 (xs_cons (x_self (kvs:=ik b 11) (kvs':=ik b 12) (os':=(osI b).take 7) rfl (fun ι=>rfl) (ev_Dict0 hS_alloc) rfl (leR rfl) (by kernel_rfl))
 (xs_cons (x_self (kvs:=ik b 12) (kvs':=ik b 13) (os':=osI b) rfl (fun ι=>rfl) (ev_List (evL_cons rfl (ev_Const rfl) evL_nil) (leR rfl) hS_alloc) rfl (leR rfl) (by kernel_rfl))
 (xs_cons (x_self (kvs:=ik b 13) (kvs':=ik b 14) rfl (fun ι=>rfl) (ev_Const rfl) rfl (leR rfl) (by kernel_rfl))
 (xs_cons (x_self (kvs:=ik b 14) (kvs':=ik b 15) rfl (fun ι=>rfl) (ev_Const rfl) rfl (leR rfl) (by kernel_rfl))
 (xs_cons (x_self (kvs:=ik b 15) (kvs':=ik b 16) rfl (fun ι=>rfl) (ev_Const rfl) rfl (leR rfl) (by kernel_rfl))
 (xs_cons (x_self (kvs:=ik b 16) (kvs':=ik b 17) rfl (fun ι=>rfl) (ev_Const rfl) rfl (leR rfl) (by kernel_rfl)) xs_nil)))))))))))))))))))
 have e:hI b (ik b 17) (osI b) G=mk3 b (s0 b) G (b+11):=by
  refine congrArg (fun f=>Hp.mk f (b+11)) (funext fun i => ?_)
  show (if b≤i∧i<b+11 then _ else G i)=if b≤i∧i<b+11 then tab3 b (s0 b) (i-b) else G i
  by_cases h:b≤i∧i<b+11
  ·rw[if_pos h,if_pos h]
   exact lt11 (P:=fun j=>(.list [] :: .ns (ik b 17) :: .inst 150 (b+1)::osI b:List AObj).getD j (.list [])=tab3 b (s0 b) j) ⟨rfl,rfl,rfl,rfl,rfl,rfl,rfl,rfl,rfl,rfl,rfl⟩ (i-b) (by trivial)
  ·rw[if_neg h,if_neg h]
 have e2:((hS b [.list []] G).alloc (.ns [])).alloc (.inst 150 (hS b [.list []] G).n)=hI b (ik b 0) [] G:=by
  rw[hS_alloc,hS_alloc]; rfl
 rw[e] at go
 exact c_cls init_some (by rw[e2]; exact run_fn (fn_init P sa is) .init body_init nm_init go rfl)
end
section
noncomputable def scan(uri:Str):List (Str×Str)→List Str→Option Str×List Str
 | [],ks=>(none,ks)
 | (u,p)::r,ks=>if u=uri∧p∉ks then (some p,ks) else scan uri r (addL ks p)
noncomputable def colon:Str:=":"
noncomputable def nameOf(p tag:Str):Str:=if p.length=0 then tag else Str.empty++p++colon++tag
noncomputable def e0:Expr := .Constant .none 0 ⟨0,0,0,0⟩
noncomputable def sv:Stmt→Expr×List Stmt×List Stmt
 | .For t _ b e _=>(t,b,e)
 | .If c b e _=>(c,b,e)
 | .While c b e _=>(c,b,e)
 | .Assign _ e _=>(e,[],[])
 | _=>(e0,[],[])
noncomputable def sO(o:Option Stmt):Expr×List Stmt×List Stmt:=o.elim (e0,[],[]) sv
noncomputable def forT(o:Option Stmt):Expr:=(sO o).1
noncomputable def forB(o:Option Stmt):List Stmt:=(sO o).2.1
noncomputable def ifB(o:Option Stmt):List Stmt:=(sO o).2.1
noncomputable def elS(o:Option Stmt):Option Stmt:=(sO o).2.2.head?
noncomputable def ev1:Expr→Expr×Expr×List Comprehension
 | .ListComp e g _ _=>(e,e,g)
 | .DictComp k v g _ _=>(k,v,g)
 | _=>(e0,e0,[])
noncomputable def arg1:Expr→Expr
 | .Call _ (a::_) _ _=>a
 | _=>e0
theorem cmp_eqT{H:Hp}{a b:Str}(h:a=b):Cmp H .Eq (.str a) (.str b) true:=beq_iff_eq.mpr h ▸ .eq .str
theorem cmp_eqF{H:Hp}{a b:Str}(h:a≠b):Cmp H .Eq (.str a) (.str b) false:=beq_false_of_ne h ▸ .eq .str
theorem cmp_ninT{H:Hp}{p:Str}{m:Nat}{ks:List Str}(h:H.f m = .set ks)(hp:p∉ks):Cmp H .NotIn (.str p) (.ref m) true:=by
 have:=Cmp.nin (InV.set (x:=p) h)
 rwa [show ks.contains p=false from by simpa using hp] at this
theorem cmp_ninF{H:Hp}{p:Str}{m:Nat}{ks:List Str}(h:H.f m = .set ks)(hp:p∈ks):Cmp H .NotIn (.str p) (.ref m) false:=by
 have:=Cmp.nin (InV.set (x:=p) h)
 rwa [List.contains_iff_mem.mpr hp] at this
theorem len_addL(ks:List Str)(k:Str):(addL ks k).length≤ks.length+1:=by
 unfold addL; split <;> simp
variable {b:Nat} {s:S3} {G:Nat→AObj} {n:Nat} {P:Params} {sa:Addr} {is:List Int}
noncomputable def sc_qname:Sc:=[("self",.local),("qname",.local),("uri",.local),("tag",.local),("prefixes_seen",.local),("u",.local),("prefix",.local),("set",.globalImplicit),("len",.globalImplicit),("ValueError",.globalImplicit)]
theorem nm_qname:(fdAt (hd.heap_39 P) 90).scope.names=sc_qname:=by kernel_rfl
theorem body_qname:(fdAt (hd.heap_39 P) 90).body = .stmts (bodyAt (hd.heap_39 P) 90):=by kernel_rfl
noncomputable def base90(b:Nat)(q uri tag:Str)(m:Nat):Loc:=[("self",.ref (b+2)),("qname",.str q),("uri",.str uri),("tag",.str tag),("prefixes_seen",.ref m)]
noncomputable def base90'(b:Nat)(q uri tag:Str)(m:Nat)(x y:V):Loc:=[("self",.ref (b+2)),("qname",.str q),("uri",.str uri),("tag",.str tag),("prefixes_seen",.ref m),("u",x),("prefix",y)]
noncomputable abbrev bodyQ(P:Params)(sa:Addr)(is:List Int)(k i:Nat)(x:V)(loc:Loc)(H:Hp)(fl:Fl)(loc':Loc)(H':Hp):Prop:=Turn (pe3 P sa is) k sc_qname (forT (bodyAt (hd.heap_39 P) 90)[i]?) (forB (bodyAt (hd.heap_39 P) 90)[i]?) x loc H fl loc' H'
noncomputable abbrev loopQ(P:Params)(sa:Addr)(is:List Int)(k i:Nat)(src:List Nat)(H0:Hp)(xs:List V)(loc:Loc)(H:Hp)(fl:Fl)(loc':Loc)(H':Hp):Prop:=Ev (pe3 P sa is) k (.forG sc_qname (forT (bodyAt (hd.heap_39 P) 90)[i]?) (forB (bodyAt (hd.heap_39 P) 90)[i]?) src H0 xs loc H) (.f fl loc' H')
theorem q_hit{k:Nat}{q uri tag:Str}{m:Nat}{p:Str}{ks:List Str}(hm:okId b m)(hG:G m = .set ks)(hp:p∉ks)(hl:p.length≤1000)(ht:tag.length≤1000):
  bodyQ P sa is (k+12) 2 (pv (uri,p)) (base90 b q uri tag m) (mk3 b s G n) (.ret (.tup [.str (nameOf p tag),.str tag,.str uri])) (base90' b q uri tag m (.str uri) (.str p)) (mk3 b s G n):=by
 have hset:(mk3 b s G n).f m = .set ks:=(mk3_at hm).trans hG
 have hb:bindT sc_qname (mk3 b s G n) (forT (bodyAt (hd.heap_39 P) 90)[2]?) (pv (uri,p)) (base90 b q uri tag m)=some (base90' b q uri tag m (.str uri) (.str p)):=rfl
 refine fb hb ?_
 have hlim:∀ {x:Nat},x≤3000→x≤lim:=fun h=>Nat.le_trans h (by decide)
 by_cases h0:p.length=0
 ·rw[show nameOf p tag=tag from if_pos h0]
  exact (xs_stop (xv_If (tv_Bool (test_go (tv_Cmp rfl (ev_Name rfl) (ev_Name rfl) (cmp_eqT rfl)) rfl (test_go (tv_Cmp rfl (ev_Name rfl) (ev_Name rfl) (cmp_ninT hset hp)) rfl test_nil))) (xs_stop (xv_Ret (ev_Tuple (evL_cons rfl (ev_If (tv_Gen rfl (ev_Name rfl) (tr_strF h0)) (ev_Name rfl)) (evL_cons rfl (ev_Name rfl) (evL_cons rfl (ev_Name rfl) evL_nil))) (leR rfl))) rfl)) rfl)
 ·rw[show nameOf p tag=Str.empty++p++colon++tag from if_neg h0]
  have e1:(Str.empty++p).length=p.length:=by rw[Str.empty_append]
  have e2:(Str.empty++p++colon).length=p.length+1:=by rw[sLen,e1]; rfl
  exact (xs_stop (xv_If (tv_Bool (test_go (tv_Cmp rfl (ev_Name rfl) (ev_Name rfl) (cmp_eqT rfl)) rfl (test_go (tv_Cmp rfl (ev_Name rfl) (ev_Name rfl) (cmp_ninT hset hp)) rfl test_nil))) (xs_stop (xv_Ret (ev_Tuple (evL_cons rfl (ev_If (tv_Gen rfl (ev_Name rfl) (tr_strT (hlim (by trivial)) h0))
   (ev_Joined (join_cons (ev_Fmt (ev_Name rfl) (hlim (by trivial))) (hlim (by show 0+p.length≤_; trivial)) (join_cons (ev_Const rfl) (hlim (by rw[e1]; show p.length+1≤_; trivial)) (join_cons (ev_Fmt (ev_Name rfl) (hlim (by trivial))) (hlim (by show (Str.empty++p++colon).length+tag.length≤3000; rw[e2]; trivial)) join_nil))))) (evL_cons rfl (ev_Name rfl) (evL_cons rfl (ev_Name rfl) evL_nil))) (leR rfl))) rfl)) rfl)
theorem q_miss{k:Nat}{q uri tag:Str}{m:Nat}{u p:Str}{ks:List Str}(hm:okId b m)(hG:G m = .set ks)(hp:¬ (u=uri∧p∉ks))(hk:ks.length<1000):
  bodyQ P sa is (k+12) 2 (pv (u,p)) (base90 b q uri tag m) (mk3 b s G n) .next (base90' b q uri tag m (.str u) (.str p)) (mk3 b s (upd G m (.set (addL ks p))) n):=by
 have hset:(mk3 b s G n).f m = .set ks:=(mk3_at hm).trans hG
 have hb:bindT sc_qname (mk3 b s G n) (forT (bodyAt (hd.heap_39 P) 90)[2]?) (pv (u,p)) (base90 b q uri tag m)=some (base90' b q uri tag m (.str u) (.str p)):=rfl
 have hat:attr (pe3 P sa is) (mk3 b s G n) "add" (.ref m)=some (.bm .sAdd (.ref m)):=attr_set hset rfl
 refine fb hb ?_
 by_cases hu:u=uri
 ·have hp':p∈ks:=by
   by_cases h:p∈ks
   ·exact h
   ·exact absurd ⟨hu,h⟩ hp
  exact (xs_cons (xv_If (tv_Bool (test_go (tv_Cmp rfl (ev_Name rfl) (ev_Name rfl) (cmp_eqT hu)) rfl (test_stop (tv_Cmp rfl (ev_Name rfl) (ev_Name rfl) (cmp_ninF hset hp')) rfl))) xs_nil) (xs_cons (xv_Expr rfl (ev_CallA rfl rfl (by decide) (ev_Name rfl) hat rfl (evL_cons rfl (ev_Name rfl) evL_nil) evKw_nil (c_bm (pv_sadd hset hk (mk3_put hm))))) xs_nil))
 ·exact (xs_cons (xv_If (tv_Bool (test_stop (tv_Cmp rfl (ev_Name rfl) (ev_Name rfl) (cmp_eqF hu)) rfl)) xs_nil) (xs_cons (xv_Expr rfl (ev_CallA rfl rfl (by decide) (ev_Name rfl) hat rfl (evL_cons rfl (ev_Name rfl) evL_nil) evKw_nil (c_bm (pv_sadd hset hk (mk3_put hm))))) xs_nil))
theorem base_sub{b:Nat}{q uri tag:Str}{m:Nat}{x y:V}  : ∀ z v,(base90 b q uri tag m).lookup z=some v→(base90' b q uri tag m x y).lookup z=some v:=lk_app (l:=base90 b q uri tag m) (m:=[("u",x),("prefix",y)])
theorem upd_ne{G:Nat→AObj}{i j:Nat}{o:AObj}(h:j≠i):upd G i o j=G j:=if_neg h
theorem upd_at{G:Nat→AObj}{i:Nat}{o:AObj}:upd G i o i=o:=if_pos rfl
theorem mk3_ne{G:Nat→AObj}{m j:Nat}{o:AObj}(h:j≠m):(mk3 b s (upd G m o) n).f j=(mk3 b s G n).f j:=by
 show (if b≤j∧j<b+11 then tab3 b s (j-b) else upd G m o j)=if b≤j∧j<b+11 then tab3 b s (j-b) else G j
 rw[upd_ne h]
theorem q_loop{k:Nat}{q uri tag:Str}{m:Nat}{src:List Nat}{H0:Hp}(hm:okId b m)(hw:∀ w∈src,w≠m)(ht:tag.length≤1000){ps:List (Str×Str)}:∀ {ks:List Str} {G:Nat→AObj},
  G m = .set ks→standsL H0 (mk3 b s G n) src→ks.length+ps.length<1000→(∀ p∈ps,p.2.length≤1000) →
  Ex2_4 (fun G' loc'=>(∀ i,i≠m→G' i=G i)) (fun G' loc'=>((scan uri ps ks).1=none→loc'=base90 b q uri tag m)) (fun G' loc'=>G' m = .set (scan uri ps ks).2) (fun G' loc'=>loopQ P sa is (k+12) 2 src H0 (ps.map pv) (base90 b q uri tag m) (mk3 b s G n) (match (scan uri ps ks).1 with | some p => .ret (.tup [.str (nameOf p tag),.str tag,.str uri]) | none => .next) loc' (mk3 b s G' n)):=by
 induction ps with
 | nil=>exact fun {ks G} hG ι ι ι=>⟨G,_,fun ι ι=>rfl,fun ι=>rfl,hG,forG_nil⟩
 | cons up ps ih =>
  intro ks G hG hs hn hz
  obtain ⟨u,p⟩:=up
  by_cases h:u=uri∧p∉ks
  ·have e:scan uri ((u,p)::ps) ks=(some p,ks):=if_pos h
   rw[e]
   obtain ⟨rfl,hp⟩:=h
   obtain ⟨_,a,c⟩:=q_hit (P:=P) (sa:=sa) (is:=is) (n:=n) (k:=k) (q:=q) (s:=s) hm hG hp (hz _ List.mem_cons_self) ht
   exact ⟨G,_,fun ι ι=>rfl,fun e=>(nomatch e),hG,forG_ret a c⟩
  ·have e:scan uri ((u,p)::ps) ks=scan uri ps (addL ks p):=if_neg h
   rw[e]
   have hla:=len_addL ks p
   rw[List.length_cons] at hn
   have hst:standsL H0 (mk3 b s (upd G m (.set (addL ks p))) n) src:=fun w hw'=>(mk3_ne (hw w hw')).trans (hs w hw')
   obtain ⟨G',loc',h1,h2,h3,h4⟩:=ih (ks:=addL ks p) (G:=upd G m (.set (addL ks p))) upd_at hst (by trivial) (fun y hy=>hz y (List.mem_cons_of_mem _ hy))
   obtain ⟨_,a,c⟩:=q_miss (P:=P) (sa:=sa) (is:=is) (n:=n) (k:=k) (q:=q) (tag:=tag) (s:=s) hm hG h (by trivial)
   exact ⟨G',loc',fun i hi=>(h1 i hi).trans (upd_ne hi),h2,h3,forG_cons a c rfl hst (forG_forget base_sub h4)⟩
end
section
theorem idx_last{xs:List V}{v:V}(h:xs.getLast? = some v):atIdx xs (-1)=some v:=by
 unfold atIdx
 rw[if_neg (by decide),if_neg (by decide)]
 have hne:xs≠[]:=fun e=>by rw[e] at h; simp at h
 have hp:0<xs.length:=List.length_pos_iff.mpr hne
 rw[if_pos (by trivial),List.getLast?_eq_getElem?] at *
 rw[← h]
 congr 1
 trivial
noncomputable def findU(uri:Str):List (Str×Str)→Option Str
 | []=>none
 | (u,p)::r=>if u=uri then some p else findU uri r
variable {b:Nat} {s:S3} {G:Nat→AObj} {n:Nat} {P:Params} {sa:Addr} {is:List Int}
theorem q2_hit{k:Nat}{q uri tag:Str}{m d:Nat}{p:Str}{xs:List V}(hdd:okId b d)(hlast:s.decl.getLast? = some (.ref d))(hG:G d = .list xs)(hx:xs.length<lim)(hl:p.length≤1000)(ht:tag.length≤1000):
  bodyQ P sa is (k+12) 5 (pv (uri,p)) (base90 b q uri tag m) (mk3 b s G n) (.ret (.tup [.str (nameOf p tag),.str tag,.str uri])) (base90' b q uri tag m (.str uri) (.str p)) (mk3 b s (upd G d (.list (xs++[pv (uri,p)]))) n):=by
 have hb:bindT sc_qname (mk3 b s G n) (forT (bodyAt (hd.heap_39 P) 90)[5]?) (pv (uri,p)) (base90 b q uri tag m)=some (base90' b q uri tag m (.str uri) (.str p)):=rfl
 have hdl:(mk3 b s G n).f d = .list xs:=(mk3_at hdd).trans hG
 have hat:attr (pe3 P sa is) (mk3 b s G n) "append" (.ref d)=some (.bm .lAppend (.ref d)):=attr_list hdl rfl
 have hix:index (mk3 b s G n) (.ref (b+5)) (.int (-1))=some (.ref d):=(idx_list f5).trans (idx_last hlast)
 refine fb hb ?_
 have hlim:∀ {x:Nat},x≤3000→x≤lim:=fun h=>Nat.le_trans h (by decide)
 by_cases h0:p.length=0
 ·rw[show nameOf p tag=tag from if_pos h0]
  exact (xs_stop (xv_If (tv_Cmp rfl (ev_Name rfl) (ev_Name rfl) (cmp_eqT rfl)) (xs_cons (xv_Expr rfl (ev_CallA rfl rfl (by decide) (ev_Idx rfl (ev_Attr rfl (ev_Name rfl) (fs rfl rfl) rfl) (ev_Neg (ev_Const rfl)) hix) hat rfl (evL_cons rfl (ev_Tuple (evL_cons rfl (ev_Name rfl) (evL_cons rfl (ev_Name rfl) evL_nil)) (leR rfl)) evL_nil) evKw_nil (c_bm (pv_append hdl hx (mk3_put hdd))))) (xs_stop (xv_Ret (ev_Tuple (evL_cons rfl (ev_If (tv_Gen rfl (ev_Name rfl) (tr_strF h0)) (ev_Name rfl)) (evL_cons rfl (ev_Name rfl) (evL_cons rfl (ev_Name rfl) evL_nil))) (leR rfl))) rfl))) rfl)
 ·rw[show nameOf p tag=Str.empty++p++colon++tag from if_neg h0]
  have e1:(Str.empty++p).length=p.length:=by rw[Str.empty_append]
  have e2:(Str.empty++p++colon).length=p.length+1:=by rw[sLen,e1]; rfl
  exact (xs_stop (xv_If (tv_Cmp rfl (ev_Name rfl) (ev_Name rfl) (cmp_eqT rfl)) (xs_cons (xv_Expr rfl (ev_CallA rfl rfl (by decide) (ev_Idx rfl (ev_Attr rfl (ev_Name rfl) (fs rfl rfl) rfl) (ev_Neg (ev_Const rfl)) hix) hat rfl (evL_cons rfl (ev_Tuple (evL_cons rfl (ev_Name rfl) (evL_cons rfl (ev_Name rfl) evL_nil)) (leR rfl)) evL_nil) evKw_nil (c_bm (pv_append hdl hx (mk3_put hdd))))) (xs_stop (xv_Ret (ev_Tuple (evL_cons rfl (ev_If (tv_Gen rfl (ev_Name rfl) (tr_strT (hlim (by trivial)) h0))
   (ev_Joined (join_cons (ev_Fmt (ev_Name rfl) (hlim (by trivial))) (hlim (by show 0+p.length≤_; trivial)) (join_cons (ev_Const rfl) (hlim (by rw[e1]; show p.length+1≤_; trivial)) (join_cons (ev_Fmt (ev_Name rfl) (hlim (by trivial))) (hlim (by show (Str.empty++p++colon).length+tag.length≤3000; rw[e2]; trivial)) join_nil))))) (evL_cons rfl (ev_Name rfl) (evL_cons rfl (ev_Name rfl) evL_nil))) (leR rfl))) rfl))) rfl)
theorem q2_miss{k:Nat}{q uri tag:Str}{m:Nat}{u p:Str}(hu:u≠uri):
  bodyQ P sa is (k+12) 5 (pv (u,p)) (base90 b q uri tag m) (mk3 b s G n) .next (base90' b q uri tag m (.str u) (.str p)) (mk3 b s G n):=by
 have hb:bindT sc_qname (mk3 b s G n) (forT (bodyAt (hd.heap_39 P) 90)[5]?) (pv (u,p)) (base90 b q uri tag m)=some (base90' b q uri tag m (.str u) (.str p)):=rfl
 refine fb hb ?_
 exact xs_cons (xv_If (tv_Cmp rfl (ev_Name rfl) (ev_Name rfl) (cmp_eqF hu)) xs_nil) xs_nil
theorem q2_loop{k:Nat}{q uri tag:Str}{m d:Nat}{src:List Nat}{H0:Hp}{xs:List V}{p0:Str}(hdd:okId b d)(hlast:s.decl.getLast? = some (.ref d))(hG:G d = .list xs)(hx:xs.length<lim)(ht:tag.length≤1000)(hs:standsL H0 (mk3 b s G n) src){ps:List (Str×Str)}:
  (∀ p∈ps,p.2.length≤1000)→findU uri ps=some p0 →
  ∃ loc',loopQ P sa is (k+12) 5 src H0 (ps.map pv) (base90 b q uri tag m) (mk3 b s G n) (.ret (.tup [.str (nameOf p0 tag),.str tag,.str uri])) loc' (mk3 b s (upd G d (.list (xs++[pv (uri,p0)]))) n):=by
 induction ps with
 | nil=>exact fun ι h=>nomatch h
 | cons up ps ih =>
  intro hz h
  obtain ⟨u,p⟩:=up
  replace h:(if u=uri then some p else findU uri ps)=some p0:=h
  by_cases hu:u=uri
  ·rw[if_pos hu] at h
   subst hu; cases h
   obtain ⟨_,a,c⟩:=q2_hit (P:=P) (sa:=sa) (is:=is) (n:=n) (k:=k) (q:=q) (m:=m) hdd hlast hG hx (hz _ List.mem_cons_self) ht
   exact ⟨_,forG_ret a c⟩
  ·rw[if_neg hu] at h
   obtain ⟨loc',h4⟩:=ih (fun y hy=>hz y (List.mem_cons_of_mem _ hy)) h
   obtain ⟨_,a,c⟩:=q2_miss (P:=P) (sa:=sa) (is:=is) (b:=b) (s:=s) (G:=G) (n:=n) (k:=k) (q:=q) (tag:=tag) (m:=m) (p:=p) hu
   exact ⟨loc',forG_cons a c rfl hs (forG_forget base_sub h4)⟩
theorem q2_none{k:Nat}{q uri tag:Str}{m:Nat}{src:List Nat}{H0:Hp}(hs:standsL H0 (mk3 b s G n) src){ps:List (Str×Str)}:findU uri ps=none →
  ∃ ex,loopQ P sa is (k+12) 5 src H0 (ps.map pv) (base90 b q uri tag m) (mk3 b s G n) .next (base90 b q uri tag m++ex) (mk3 b s G n):=by
 induction ps with
 | nil=>exact fun ι=>⟨[],forG_nil⟩
 | cons up ps ih =>
  intro h
  obtain ⟨u,p⟩:=up
  replace h:(if u=uri then some p else findU uri ps)=none:=h
  by_cases hu:u=uri
  ·rw[if_pos hu] at h; exact noS h.symm
  ·rw[if_neg hu] at h
   obtain ⟨ex,h4⟩:=ih h
   obtain ⟨_,a,c⟩:=q2_miss (P:=P) (sa:=sa) (is:=is) (b:=b) (s:=s) (G:=G) (n:=n) (k:=k) (q:=q) (tag:=tag) (m:=m) (p:=p) hu
   exact ⟨ex,forG_cons a c rfl hs (forG_forget base_sub h4)⟩
noncomputable def bra:Str:="{"
noncomputable def ket:Str:="}"
noncomputable def Parse(q uri tag:Str):Prop:=(Txt.slice q none (some 1)=bra∧Txt.rsplitMax (Txt.slice q (some 1) none) ket 1=[uri,tag])∨(Txt.slice q none (some 1)≠bra∧uri=Str.empty∧tag=q)
theorem sl_str{H:Hp}{pe:Pe}{q:Str}{lo hi:Option Int}(hl:q.length≤lim):Slc pe H (.str q) lo hi none (.str (Txt.slice q lo hi)) H := .str hl
noncomputable abbrev loc90(b:Nat)(q:Str):Loc:=[("self",.ref (b+2)),("qname",.str q),("uri",.none)]
noncomputable abbrev loc91(b:Nat)(q uri tag:Str):Loc:=[("self",.ref (b+2)),("qname",.str q),("uri",.str uri),("tag",.str tag)]
noncomputable def Same(n:Nat)(G G':Nat→AObj):Prop:=∀ i,i<n→G' i=G i
theorem q_parse{k:Nat}{q uri tag:Str}(hn:b+11≤n)(hq:q.length≤1000)(h:Parse q uri tag):
  Ex2_4 (fun G' n'=>n≤n') (fun G' n'=>n'≤n+1) (fun G' n'=>Same n G G') (fun G' n'=>∀ fl lc h,Ev (pe3 P sa is) (k+12) (.xs sc_qname ((bodyAt (hd.heap_39 P) 90).drop 1) (loc91 b q uri tag) (mk3 b s G' n')) (.f fl lc h)→Ev (pe3 P sa is) (k+12) (.xs sc_qname (bodyAt (hd.heap_39 P) 90) (loc90 b q) (mk3 b s G n)) (.f fl lc h)):=by
 have hlim:∀ {x:Nat},x≤3000→x≤lim:=fun h=>Nat.le_trans h (by decide)
 have hs1:(Txt.slice q (some 1) none).length≤1000:=Nat.le_trans (Txt.slice_le _ _ _) hq
 rcases h with ⟨h1,h2⟩ | ⟨h1,rfl,rfl⟩
 ·refine ⟨upd G n (.list [.str uri,.str tag]),n+1,Nat.le_succ _,Nat.le_refl _,fun i hi=>if_neg (Nat.ne_of_lt hi),fun fl lc h hz => ?_⟩
  have hun:unp (mk3 b s (upd G n (.list [.str uri,.str tag])) (n+1)) (.ref n)=some [.str uri,.str tag]:=by
   exact unp_ref ((mk3_at (.inr hn)).trans (if_pos rfl))
  have hal:(mk3 b s G n).alloc (.list ((Txt.rsplitMax (Txt.slice q (some 1) none) ket 1).map .str))=mk3 b s (upd G n (.list [.str uri,.str tag])) (n+1):=by
   rw[h2]; exact mk3_alloc hn
  exact xs_cons (xv_If (tv_Cmp rfl (ev_Name rfl) (ev_Const rfl) (cmpR rfl)) (xs_cons (xv_Asg rfl (fun ι=>rfl) (ev_If (tv_Cmp rfl (ev_Slice (ev_Name rfl) opt_none (opt_some (ev_Const rfl)) opt_none (sl_str (hlim (by trivial)))) (ev_Const rfl) (cmp_eqT h1))
   (ev_CallA rfl rfl (by decide) (ev_Slice (ev_Name rfl) (opt_some (ev_Const rfl)) opt_none opt_none (sl_str (hlim (by trivial)))) rfl rfl (evL_cons rfl (ev_Const rfl) (evL_cons rfl (ev_Const rfl) evL_nil)) evKw_nil (c_bm (pv_rsplit ⟨by decide,hlim (by trivial),by decide,by decide⟩ hal)))) (asgs_one rfl (asg_Tup hun rfl))) xs_nil)) hz
 ·refine ⟨G,n,Nat.le_refl _,Nat.le_succ _,fun i hi=>rfl,fun fl lc h hz => ?_⟩
  exact xs_cons (xv_If (tv_Cmp rfl (ev_Name rfl) (ev_Const rfl) (cmpR rfl)) (xs_cons (xv_Asg rfl (fun ι=>rfl) (ev_If (tv_Cmp rfl (ev_Slice (ev_Name rfl) opt_none (opt_some (ev_Const rfl)) opt_none (sl_str (hlim (by trivial)))) (ev_Const rfl) (cmp_eqF h1))
   (ev_Tuple (evL_cons rfl (ev_Const rfl) (evL_cons rfl (ev_Name rfl) evL_nil)) (leR rfl))) (asgs_one rfl (asg_Tup rfl rfl))) xs_nil)) hz
end
section
structure Stk (H:Hp) (vs:List V) (ids:List Nat) (lv:Nat→List (Str×Str)):Prop where
 eq:vs=ids.map .ref
 ok:∀ j∈ids,j<H.n∧H.f j = .list ((lv j).map pv)
noncomputable def walkL(ids:List Nat)(lv:Nat→List (Str×Str)):List (Str×Str):=ids.reverse.flatMap lv
theorem walkL_map(ids:List Nat)(lv:Nat→List (Str×Str)):ids.reverse.flatMap (fun j=>(lv j).map pv)=(walkL ids lv).map pv:=by
 unfold walkL; rw[List.map_flatMap]
theorem walk_le{ids:List Nat}{lv:Nat→List (Str×Str)}{j:Nat}(h:j∈ids):(lv j).length≤(walkL ids lv).length:=by
 unfold walkL
 obtain ⟨a,c,e⟩:=List.append_of_mem (List.mem_reverse.mpr h)
 rw[e,List.flatMap_append,List.flatMap_cons,List.length_append,List.length_append]; trivial
variable {b:Nat} {s:S3} {G:Nat→AObj} {n:Nat} {P:Params} {sa:Addr} {is:List Int}
theorem glob_set:(pe3 P sa is).glob "set"=some (.bf .set):=by kernel_rfl
theorem mk3_low{G':Nat→AObj}{n' j:Nat}(hG:∀ i,i<n→G' i=G i)(h:j<n):(mk3 b s G' n').f j=(mk3 b s G n).f j:=by
 show (if b≤j∧j<b+11 then tab3 b s (j-b) else G' j)=if b≤j∧j<b+11 then tab3 b s (j-b) else G j
 rw[hG j h]
noncomputable def qres(DL NL:List (Str×Str))(uri tag:Str):Option (Str×Option (Str×Str)):=match (scan uri DL []).1 with
 | some p=>some (nameOf p tag,none)
 | none=>if uri.length=0∧Str.empty∉(scan uri DL []).2 then some (tag,none) else match findU uri NL with
  | some p=>some (nameOf p tag,some (uri,p))
  | none=>if uri.length=0 then some (tag,none) else none
theorem t_qname{k:Nat}{q uri tag nm:Str}{dc:Option (Str×Str)}{dids nids:List Nat}{dl nl:Nat→List (Str×Str)}{d:Nat}(hn:b+11≤n)(hq:q.length≤1000)(hp:Parse q uri tag)(hu:uri.length≤1000)(ht:tag.length≤1000)(SD:Stk (mk3 b s G n) s.decl dids dl)(SN:Stk (mk3 b s G n) s.ns nids nl)(hd0:dids.getLast? = some d)(hdk:okId b d)
  (hz1:(walkL dids dl).length≤900∧∀ p∈walkL dids dl,p.2.length≤1000) (hz2:(walkL nids nl).length≤900∧∀ p∈walkL nids nl,p.2.length≤1000) (hr:qres (walkL dids dl) (walkL nids nl) uri tag=some (nm,dc)) :
  Ex2_5 (fun G' n'=>n≤n') (fun G' n'=>n'≤n+2) (fun G' n'=>(∀ i,i<n→i≠d→G' i=G i)) (fun G' n'=>G' d = .list ((dl d++dc.toList).map pv)) (fun G' n'=>Ev (pe3 P sa is) (k+40) (.c (.mt 90 (.ref (b+2))) [.str q] [] (mk3 b s G n)) (.v (.tup [.str nm,.str tag,.str uri]) (mk3 b s G' n'))):=by
 have hdm:d∈dids:=List.mem_of_getLast? hd0
 obtain ⟨hdlt,hdf⟩:=SD.ok d hdm
 replace hdlt:d<n:=hdlt
 have hdG:G d = .list ((dl d).map pv):=by rw[mk3_at hdk] at hdf; exact hdf
 have hlast:s.decl.getLast? = some (.ref d):=by rw[SD.eq,List.getLast?_map,hd0]; rfl
 obtain ⟨G1,n1,hn1,hn1',hs1,hrun⟩:=q_parse (P:=P) (sa:=sa) (is:=is) (s:=s) (G:=G) (k:=k+27) hn hq hp
 have hm:okId b n1 := .inr (by trivial)
 have hal:(mk3 b s G1 n1).alloc (.set [])=mk3 b s (upd G1 n1 (.set [])) (n1+1):=mk3_alloc (by trivial)
 have low2:∀ i,i<n→(upd G1 n1 (.set [])) i=G i:=fun i hi=>(upd_ne (by trivial)).trans (hs1 i hi)
 have D2:∀ j∈dids,(mk3 b s (upd G1 n1 (.set [])) (n1+1)).f j = .list ((dl j).map pv):=fun j hj=>(mk3_low (n:=n) low2 (SD.ok j hj).1).trans (SD.ok j hj).2
 have hsrc:∀ w∈(b+5)::dids,w≠n1:=fun w hw=>by
  rcases List.mem_cons.mp hw with rfl | hw
  ·trivial
  ·have:w<n:=(SD.ok w hw).1
   trivial
 obtain ⟨G4,loc4,h4a,h4b,h4c,h4d⟩:=q_loop (P:=P) (sa:=sa) (is:=is) (s:=s) (n:=n1+1) (k:=k+26) (q:=q) (uri:=uri) (src:=(b+5)::dids) (H0:=mk3 b s (upd G1 n1 (.set [])) (n1+1)) hm hsrc ht (ps:=walkL dids dl) (ks:=[]) (G:=upd G1 n1 (.set [])) upd_at (fun ι ι=>rfl) (by simp only[List.length_nil]; trivial) hz1.2
 have hG4:∀ i,i<n→G4 i=G i:=fun i hi=>(h4a i (by trivial)).trans (low2 i hi)
 have hsm:∀ j∈dids,((dl j).map pv).length≤lim:=fun j hj=>by
  rw[List.length_map]; exact Nat.le_trans (walk_le hj) (toLim (by trivial))
 rw[← walkL_map] at h4d
 have f5':(mk3 b s (upd G1 n1 (.set [])) (n1+1)).f (b+5) = .list (dids.map .ref):=f5.trans (by rw[SD.eq])
 unfold qres at hr
 cases hsc:(scan uri (walkL dids dl) []).1 with
 | some p =>
  rw[hsc] at hr h4d
  dsimp only at hr h4d
  obtain ⟨rfl,rfl⟩:=Prod.mk.inj (Option.some.inj hr)
  refine ⟨G4,n1+1,by trivial,by trivial,fun i hi ι=>hG4 i hi,?_,?_⟩
  ·rw[hG4 d hdlt,hdG]; exact congrArg _ (congrArg _ (List.append_nil _).symm)
  ·exact c_mt (run_fn (fn_qname P sa is) .qname body_qname nm_qname (hrun _ _ _ (xs_cons (xv_Asg rfl (fun ι=>rfl) (ev_CallN (lk_glob (by decide) rfl glob_set) rfl evL_nil evKw_nil (c_bf (fv_set hal))) (asgs_one rfl (asg_Name rfl))) (xs_stop (xv_ForG (lv:=fun j=>(dl j).map pv) rfl rfl (ev_Name rfl) (am rfl rfl) rfl (evL_cons rfl (ev_Attr rfl (ev_Name rfl) (fs rfl rfl) rfl) evL_nil) f5' D2 hsm h4d) rfl))) rfl)
 | none =>
  rw[hsc] at hr h4d
  dsimp only at hr h4d
  have hset4:(mk3 b s G4 (n1+1)).f n1 = .set (scan uri (walkL dids dl) []).2:=(mk3_at hm).trans h4c
  cases h4b hsc
  by_cases hc:uri.length=0∧Str.empty∉(scan uri (walkL dids dl) []).2
  ·rw[if_pos hc] at hr
   obtain ⟨rfl,rfl⟩:=Prod.mk.inj (Option.some.inj hr)
   refine ⟨G4,n1+1,by trivial,by trivial,fun i hi ι=>hG4 i hi,?_,?_⟩
   ·rw[hG4 d hdlt,hdG]; exact congrArg _ (congrArg _ (List.append_nil _).symm)
   ·exact c_mt (run_fn (fn_qname P sa is) .qname body_qname nm_qname (hrun _ _ _ (xs_cons (xv_Asg rfl (fun ι=>rfl) (ev_CallN (lk_glob (by decide) rfl glob_set) rfl evL_nil evKw_nil (c_bf (fv_set hal))) (asgs_one rfl (asg_Name rfl))) (xs_cons (xv_ForG (lv:=fun j=>(dl j).map pv) rfl rfl (ev_Name rfl) (am rfl rfl) rfl (evL_cons rfl (ev_Attr rfl (ev_Name rfl) (fs rfl rfl) rfl) evL_nil) f5' D2 hsm h4d) (xs_cons (xv_If (tv_Gen rfl (ev_Attr rfl (ev_Name rfl) (fs rfl rfl) rfl) rfl) xs_nil) (xs_stop (xv_If (tv_Bool (test_go (tv_Not (tv_Gen rfl (ev_Name rfl) (tr_strF hc.1))) rfl (test_go (tv_Cmp rfl (ev_Const rfl) (ev_Name rfl) (cmp_ninT hset4 hc.2)) rfl test_nil))) (xs_stop (xv_Ret (ev_Tuple (evL_cons rfl (ev_Name rfl) (evL_cons rfl (ev_Name rfl) (evL_cons rfl (ev_Name rfl) evL_nil))) (leR rfl))) rfl)) rfl))))) rfl)
  rw[if_neg hc] at hr
  have S5:∀ j∈nids,(mk3 b s G4 (n1+1)).f j = .list ((nl j).map pv):=fun j hj=>(mk3_low (n:=n) hG4 (SN.ok j hj).1).trans (SN.ok j hj).2
  have hsm2:∀ j∈nids,((nl j).map pv).length≤lim:=fun j hj=>by
   rw[List.length_map]; exact Nat.le_trans (walk_le hj) (toLim (by trivial))
  have f6':(mk3 b s G4 (n1+1)).f (b+6) = .list (nids.map .ref):=f6.trans (by rw[SN.eq])
  have hu0:uri.length≤lim:=toLim (by trivial)
  have mid:∀ fl lc h,Ev (pe3 P sa is) (k+39) (.xs sc_qname ((bodyAt (hd.heap_39 P) 90).drop 5) (base90 b q uri tag n1) (mk3 b s G4 (n1+1))) (.f fl lc h)→Ev (pe3 P sa is) (k+39) (.xs sc_qname (bodyAt (hd.heap_39 P) 90) (loc90 b q) (mk3 b s G n)) (.f fl lc h):=fun fl lc h hz=>by
   refine hrun _ _ _ (xs_cons (xv_Asg rfl (fun ι=>rfl) (ev_CallN (lk_glob (by decide) rfl glob_set) rfl evL_nil evKw_nil (c_bf (fv_set hal))) (asgs_one rfl (asg_Name rfl))) (xs_cons (xv_ForG (lv:=fun j=>(dl j).map pv) rfl rfl (ev_Name rfl) (am rfl rfl) rfl (evL_cons rfl (ev_Attr rfl (ev_Name rfl) (fs rfl rfl) rfl) evL_nil) f5' D2 hsm h4d) (xs_cons (xv_If (tv_Gen rfl (ev_Attr rfl (ev_Name rfl) (fs rfl rfl) rfl) rfl) xs_nil) ?_)))
   by_cases h0:uri.length=0
   ·have hin:Str.empty∈(scan uri (walkL dids dl) []).2:=by
     by_cases h:Str.empty∈(scan uri (walkL dids dl) []).2
     ·exact h
     ·exact absurd ⟨h0,h⟩ hc
    exact xs_cons (xv_If (tv_Bool (test_go (tv_Not (tv_Gen rfl (ev_Name rfl) (tr_strF h0))) rfl (test_stop (tv_Cmp rfl (ev_Const rfl) (ev_Name rfl) (cmp_ninF hset4 hin)) rfl))) xs_nil) hz
   ·exact xs_cons (xv_If (tv_Bool (test_stop (tv_Not (tv_Gen rfl (ev_Name rfl) (tr_strT hu0 h0))) rfl)) xs_nil) hz
  cases hf:findU uri (walkL nids nl) with
  | some p =>
   rw[hf] at hr
   obtain ⟨rfl,rfl⟩:=Prod.mk.inj (Option.some.inj hr)
   have hdl5:(dl d).length≤900:=Nat.le_trans (walk_le hdm) hz1.1
   obtain ⟨loc6,h6⟩:=q2_loop (P:=P) (sa:=sa) (is:=is) (s:=s) (n:=n1+1) (k:=k+26) (q:=q) (uri:=uri) (m:=n1) (d:=d) (src:=(b+6)::nids) (H0:=mk3 b s G4 (n1+1)) (G:=G4) hdk hlast ((hG4 d hdlt).trans hdG) (by rw[List.length_map]; exact ltLim (by trivial)) ht (fun ι ι=>rfl) (ps:=walkL nids nl) hz2.2 hf
   rw[← walkL_map] at h6
   refine ⟨upd G4 d (.list ((dl d).map pv++[pv (uri,p)])),n1+1,by trivial,by trivial,fun i hi hid=>(upd_ne hid).trans (hG4 i hi),?_,?_⟩
   ·rw[upd_at]; exact congrArg AObj.list (by rw[List.map_append]; rfl)
   ·exact c_mt (run_fn (fn_qname P sa is) .qname body_qname nm_qname (mid _ _ _ (xs_stop (xv_ForG (lv:=fun j=>(nl j).map pv) rfl rfl (ev_Name rfl) (am rfl rfl) rfl (evL_cons rfl (ev_Attr rfl (ev_Name rfl) (fs rfl rfl) rfl) evL_nil) f6' S5 hsm2 h6) rfl)) rfl)
  | none =>
   rw[hf] at hr
   dsimp only at hr
   by_cases h0:uri.length=0
   ·rw[if_pos h0] at hr
    obtain ⟨rfl,rfl⟩:=Prod.mk.inj (Option.some.inj hr)
    obtain ⟨ex,h6⟩:=q2_none (P:=P) (sa:=sa) (is:=is) (s:=s) (n:=n1+1) (k:=k+26) (q:=q) (uri:=uri) (tag:=tag) (m:=n1) (src:=(b+6)::nids) (H0:=mk3 b s G4 (n1+1)) (G:=G4) (fun ι ι=>rfl) (ps:=walkL nids nl) hf
    rw[← walkL_map] at h6
    refine ⟨G4,n1+1,by trivial,by trivial,fun i hi ι=>hG4 i hi,?_,?_⟩
    ·rw[hG4 d hdlt,hdG]; exact congrArg _ (congrArg _ (List.append_nil _).symm)
    ·exact c_mt (run_fn (fn_qname P sa is) .qname body_qname nm_qname (mid _ _ _ (xs_cons (xv_ForG (lv:=fun j=>(nl j).map pv) rfl rfl (ev_Name rfl) (am rfl rfl) rfl (evL_cons rfl (ev_Attr rfl (ev_Name rfl) (fs rfl rfl) rfl) evL_nil) f6' S5 hsm2 h6) (xs_stop (xv_If (tv_Not (tv_Gen rfl (ev_Name rfl) (tr_strF h0))) (xs_stop (xv_Ret (ev_Tuple (evL_cons rfl (ev_Name rfl) (evL_cons rfl (ev_Name rfl) (evL_cons rfl (ev_Name rfl) evL_nil))) (leR rfl))) rfl)) rfl))) rfl)
   ·rw[if_neg h0] at hr; exact noS hr
end
structure Nm where
 q:Str
 uri:Str
 tag:Str
 full:Str
noncomputable def nK:Nm:=⟨"k","","k","k"⟩
noncomputable def nDA:Nm:=⟨"{d}a","d","a","a"⟩
noncomputable def nXL:Nm:=⟨"{http://www.w3.org/XML/1998/namespace}lang",xmlU,"lang","xml:lang"⟩
noncomputable def nUA:Nm:=⟨"{u}a","u","a","p:a"⟩
noncomputable def nUK:Nm:=⟨"{u}k","u","k","p:k"⟩
noncomputable def nVB:Nm:=⟨"{v}b","v","b","q:b"⟩
noncomputable def nVK:Nm:=⟨"{v}k","v","k","q:k"⟩
noncomputable def nWB:Nm:=⟨"{w}b","w","b","r:b"⟩
noncomputable def kn:List Nm:=[nK,nDA,nXL,nUA,nUK,nVB,nVK,nWB]
noncomputable def u4:List Str:=["d","u","v","w"]
noncomputable def u5:List Str:=["d","u","v","w",xmlU]
noncomputable def pfxU(u:Str):Str:=if u="d" then "" else if u="u" then "p" else if u="v" then "q" else if u="w" then "r" else "xml"
noncomputable def cp(u:Str):Str×Str:=(u,pfxU u)
structure NmOk (m:Nm):Prop where
 parse:Parse m.q m.uri m.tag
 full:(m.uri=Str.empty∧m.full=m.tag)∨(m.uri∈u5∧m.full=nameOf (pfxU m.uri) m.tag)
 lq:m.q.length≤1000
 lu:m.uri.length≤1000
 lt:m.tag.length≤1000
 lf:m.full.length≤1000
theorem fc{α:Type}{Q:α→Prop}{a:α}{l:List α}(h:Q a)(h2:∀ p∈l,Q p):∀ p∈a::l,Q p:=fun p hp=>(List.mem_cons.mp hp).elim (fun e=>e▸h) (h2 p)
theorem fn{α:Type}{Q:α→Prop}:∀ p∈([]:List α),Q p:=fun ι h=>nomatch h
theorem m5{u:Str}(h:u5.contains u=true):u∈u5:=List.contains_iff_mem.mp h
theorem kn_ok:∀ m∈kn,NmOk m :=
 fc ⟨.inr ⟨by decide+kernel,rfl,rfl⟩,.inl ⟨rfl,rfl⟩,leR rfl,leR rfl,leR rfl,leR rfl⟩
 (fc ⟨.inl ⟨by decide+kernel,by decide+kernel⟩,.inr ⟨m5 (by decide+kernel),by kernel_rfl⟩,leR rfl,leR rfl,leR rfl,leR rfl⟩
 (fc ⟨.inl ⟨by decide+kernel,by decide+kernel⟩,.inr ⟨m5 (by decide+kernel),by kernel_rfl⟩,leR rfl,leR rfl,leR rfl,leR rfl⟩
 (fc ⟨.inl ⟨by decide+kernel,by decide+kernel⟩,.inr ⟨m5 (by decide+kernel),by kernel_rfl⟩,leR rfl,leR rfl,leR rfl,leR rfl⟩
 (fc ⟨.inl ⟨by decide+kernel,by decide+kernel⟩,.inr ⟨m5 (by decide+kernel),by kernel_rfl⟩,leR rfl,leR rfl,leR rfl,leR rfl⟩
 (fc ⟨.inl ⟨by decide+kernel,by decide+kernel⟩,.inr ⟨m5 (by decide+kernel),by kernel_rfl⟩,leR rfl,leR rfl,leR rfl,leR rfl⟩
 (fc ⟨.inl ⟨by decide+kernel,by decide+kernel⟩,.inr ⟨m5 (by decide+kernel),by kernel_rfl⟩,leR rfl,leR rfl,leR rfl,leR rfl⟩
 (fc ⟨.inl ⟨by decide+kernel,by decide+kernel⟩,.inr ⟨m5 (by decide+kernel),by kernel_rfl⟩,leR rfl,leR rfl,leR rfl,leR rfl⟩ fn)))))))
theorem pfx_inj:∀ a∈u5,∀ b∈u5,pfxU a=pfxU b→a=b:=by
 have:u5.all (fun a=>u5.all fun b => !(pfxU a==pfxU b)||a==b)=true:=by decide+kernel
 intro a ha b hb h
 have:=List.all_eq_true.mp (List.all_eq_true.mp this a ha) b hb
 rw[h,beq_self_eq_true] at this
 exact beq_iff_eq.mp this
theorem scan_none{uri:Str}{ps:List (Str×Str)}:∀ {ks:List Str},(∀ p∈ps,p.1≠uri)→(scan uri ps ks).1=none:=by
 induction ps with
 | nil=>exact fun ι=>rfl
 | cons p ps ih =>
  intro ks h
  have e:scan uri (p::ps) ks=scan uri ps (addL ks p.2):=if_neg fun q=>h p (.head _) q.1
  rw[e]; exact ih fun y hy=>h y (.tail _ hy)
theorem scan_some{uri:Str}(hu:uri∈u5){us:List Str}:∀ {ks:List Str},(∀ u∈us,u∈u5)→pfxU uri∉ks→uri∈us→(scan uri (us.map cp) ks).1=some (pfxU uri):=by
 induction us with
 | nil=>exact fun ι ι h=>nomatch h
 | cons u us ih =>
  intro ks h hk hm
  by_cases e:u=uri
  ·subst e
   have e2:scan u ((u::us).map cp) ks=(some (pfxU u),ks):=if_pos ⟨rfl,hk⟩
   rw[e2]
  ·have e2:scan uri ((u::us).map cp) ks=scan uri (us.map cp) (addL ks (pfxU u)):=if_neg fun q=>e q.1
   rw[e2]
   refine ih (fun y hy=>h y (.tail _ hy)) (fun q => ?_) ((List.mem_cons.mp hm).resolve_left fun q=>e q.symm)
   unfold addL at q
   by_cases hc:ks.contains (pfxU u)=true
   ·rw[if_pos hc] at q; exact hk q
   ·rw[if_neg hc] at q
    rcases List.mem_cons.mp q with q | q
    ·exact e (pfx_inj u (h u (.head _)) uri hu q.symm)
    ·exact hk q
noncomputable def dcl(us:List Str)(m:Nm):Option (Str×Str):=if m.uri∈u4∧m.uri∉us then some (cp m.uri) else none
theorem u45:∀ u∈u4,u∈u5:=by
 have:u4.all (fun u=>u5.contains u)=true:=by decide+kernel
 exact fun u hu=>m5 (List.all_eq_true.mp this u hu)
theorem u5_cases{u:Str}(h:u∈u5):u∈u4∨u=xmlU:=by
 have e:u5=u4++[xmlU]:=rfl
 rw[e] at h
 exact (List.mem_append.mp h).imp id List.mem_singleton.mp
theorem e_u5:Str.empty∉u5:=by decide+kernel
theorem qres_kn{us:List Str}{NL:List (Str×Str)}{m:Nm}(hm:NmOk m)(hus:∀ u∈us,u∈u5)(hx:xmlU∈us)(h4:∀ u∈u4,findU u NL=some (pfxU u))(h0:findU Str.empty NL=none):qres (us.map cp) NL m.uri m.tag=some (m.full,dcl us m):=by
 have hne:∀ uri,uri∉us→∀ p∈us.map cp,p.1≠uri:=fun uri h p hp=>by
  obtain ⟨u,hu,rfl⟩:=List.mem_map.mp hp
  exact fun (q:u=uri)=>h (q▸hu)
 unfold qres
 rcases hm.full with ⟨e1,e2⟩ | ⟨e1,e2⟩
 ·have hd:dcl us m=none:=if_neg fun q=>e_u5 (u45 _ (e1▸q.1))
  rw[hd,e1,e2,scan_none (hne _ fun q=>e_u5 (hus _ q))]
  dsimp only
  by_cases hc:Str.empty.length=0∧Str.empty∉(scan Str.empty (us.map cp) []).2
  ·rw[if_pos hc]
  ·rw[if_neg hc,h0]; rfl
 ·by_cases hin:m.uri∈us
  ·rw[scan_some e1 hus List.not_mem_nil hin,e2]
   dsimp only
   rw[show dcl us m=none from if_neg fun q=>q.2 hin]
  ·rw[scan_none (hne _ hin)]
   dsimp only
   have h4':m.uri∈u4:=(u5_cases e1).resolve_right fun q=>hin (q▸hx)
   have hlen:m.uri.length≠0:=by
    have:u4.all (fun u=>decide (u.length≠0))=true:=by decide+kernel
    exact of_decide_eq_true (List.all_eq_true.mp this _ h4')
   rw[if_neg fun q=>hlen q.1,h4 _ h4',e2,show dcl us m=some (cp m.uri) from if_pos ⟨h4',hin⟩]
   rfl
section
noncomputable abbrev Lv:=List (Nat×List (Str×Str))
noncomputable def lvOf(L:Lv)(j:Nat):List (Str×Str):=(L.lookup j).getD []
theorem lk_nodup{α:Type}{L:List (Nat×α)}(h:(L.map (·.1)).Nodup){p:Nat×α}(hp:p∈L):L.lookup p.1=some p.2:=by
 induction L with
 | nil=>exact nomatch hp
 | cons q L ih =>
  obtain ⟨h1,h2⟩:=List.nodup_cons.mp h
  rw[List.lookup_cons]
  rcases List.mem_cons.mp hp with rfl | hp
  ·rw[beq_self_eq_true]
  ·rw[beq_false_of_ne fun (e:p.1=q.1)=>h1 (by show q.1∈_; rw[← e]; exact List.mem_map_of_mem (f:=(·.1)) hp)]; exact ih h2 hp
theorem stk_of{H:Hp}{vs:List V}{L:Lv}(he:vs=L.map fun p=>V.ref p.1)(hn:(L.map (·.1)).Nodup)(h:∀ p∈L,p.1<H.n∧H.f p.1 = .list (p.2.map pv)):Stk H vs (L.map (·.1)) (lvOf L):=by
 refine ⟨by rw[he,List.map_map]; rfl,fun j hj => ?_⟩
 obtain ⟨p,hp,rfl⟩:=List.mem_map.mp hj
 obtain ⟨h1,h2⟩:=h p hp
 refine ⟨h1,h2.trans ?_⟩
 unfold lvOf
 rw[lk_nodup hn hp]; rfl
theorem walk_of{L:Lv}(hn:(L.map (·.1)).Nodup):walkL (L.map (·.1)) (lvOf L)=L.reverse.flatMap (·.2):=by
 unfold walkL
 rw[← List.map_reverse,List.flatMap_map]
 have:∀ p∈L.reverse,lvOf L p.1=p.2:=fun p hp=>by
  unfold lvOf
  rw[lk_nodup hn (List.mem_reverse.mp hp)]; rfl
 generalize L.reverse=M at this
 induction M with
 | nil=>rfl
 | cons p M ih=>rw[List.flatMap_cons,List.flatMap_cons,this p (.head _),ih fun q hq=>this q (.tail _ hq)]
noncomputable def told4:List (Str×Str):=[("w","r"),("d",""),("v","q"),("u","p")]
variable {b:Nat} {s:S3} {G:Nat→AObj} {n:Nat} {P:Params} {sa:Addr} {is:List Int}
structure St3 (b:Nat) (s:S3) (G:Nat→AObj) (n:Nat) (ls:List (Nat×List Str)) (ns:List Nat):Prop where
 hn:b+11≤n
 decl:s.decl = .ref (b+4)::ls.map fun l => .ref l.1
 lv:∀ l∈ls,b+11≤l.1∧l.1<n∧G l.1 = .list ((l.2.map cp).map pv)∧∀ u∈l.2,u∈u4
 nd:(ls.map (·.1)).Nodup
 nsS:s.ns = .ref (b+7) :: .ref (b+8)::ns.map .ref
 nsl:∀ e∈ns,b+11≤e∧e<n∧G e = .list []
 nsn:ns.Nodup
 told:s.told=told4.map pv
 apart:∀ e∈ns,∀ l∈ls,e≠l.1
 few:(ls.flatMap (·.2)).length≤100∧ns.length≤100
noncomputable def usOf(ls:List (Nat×List Str)):List Str:=ls.reverse.flatMap (·.2)++[xmlU]
noncomputable def dLv(b:Nat)(ls:List (Nat×List Str)):Lv:=(b+4,[xmlP])::ls.map fun l=>(l.1,l.2.map cp)
noncomputable def nLv(b:Nat)(ns:List Nat):Lv:=(b+7,nsL)::(b+8,told4)::ns.map fun e=>(e,[])
theorem dLv_fst(ls:List (Nat×List Str)):(dLv b ls).map (·.1)=(b+4)::ls.map (·.1):=by
 unfold dLv
 rw[List.map_cons,List.map_map]; rfl
theorem dLv_walk(ls:List (Nat×List Str)):(dLv b ls).reverse.flatMap (·.2)=(usOf ls).map cp:=by
 unfold dLv usOf
 rw[List.reverse_cons,List.flatMap_append,List.map_append,List.map_flatMap,← List.map_reverse,List.flatMap_map]
 have e:[(b+4,[xmlP])].flatMap (·.2)=[xmlU].map cp:=by kernel_rfl
 rw[e]
theorem nLv_walk(ns:List Nat):(nLv b ns).reverse.flatMap (·.2)=told4++nsL:=by
 unfold nLv
 rw[List.reverse_cons,List.reverse_cons,List.flatMap_append,List.flatMap_append,← List.map_reverse,List.flatMap_map]
 have e:ns.reverse.flatMap (fun ι=>([]:List (Str×Str)))=[]:=List.flatMap_eq_nil_iff.mpr fun ι ι=>rfl
 show ns.reverse.flatMap (fun ι=>([]:List (Str×Str)))++_++_=_
 rw[e]
 show []++(told4++[])++(nsL++[])=_
 rw[List.append_nil,List.append_nil,List.nil_append]
theorem nodup_cons'{α:Type}{a:α}{l:List α}(h:∀ x∈l,x≠a)(hl:l.Nodup):(a::l).Nodup:=List.nodup_cons.mpr ⟨fun q=>h a q rfl,hl⟩
theorem St3.sd{ls ns}(S:St3 b s G n ls ns):Stk (mk3 b s G n) s.decl ((dLv b ls).map (·.1)) (lvOf (dLv b ls))∧walkL ((dLv b ls).map (·.1)) (lvOf (dLv b ls))=(usOf ls).map cp:=by
 have nd:((dLv b ls).map (·.1)).Nodup:=by
  rw[dLv_fst]
  refine nodup_cons' (fun x hx => ?_) S.nd
  obtain ⟨l,hl,rfl⟩:=List.mem_map.mp hx
  have:=(S.lv l hl).1
  trivial
 refine ⟨stk_of (by rw[S.decl]; unfold dLv; rw[List.map_cons,List.map_map]; rfl) nd fun p hp => ?_,(walk_of nd).trans (dLv_walk ls)⟩
 have hn:=S.hn
 rcases List.mem_cons.mp hp with rfl | hp
 ·exact ⟨by show b+4<n; trivial,f4⟩
 ·obtain ⟨l,hl,rfl⟩:=List.mem_map.mp hp
  obtain ⟨h1,h2,h3,_⟩:=S.lv l hl
  exact ⟨h2,(mk3_at (.inr h1)).trans h3⟩
theorem St3.sn{ls ns}(S:St3 b s G n ls ns):Stk (mk3 b s G n) s.ns ((nLv b ns).map (·.1)) (lvOf (nLv b ns))∧walkL ((nLv b ns).map (·.1)) (lvOf (nLv b ns))=told4++nsL:=by
 have e:(nLv b ns).map (·.1)=(b+7)::(b+8)::ns:=by
  unfold nLv
  rw[List.map_cons,List.map_cons,List.map_map]
  show _::_::ns.map id=_
  rw[List.map_id]
 have hn:=S.hn
 have nd:((nLv b ns).map (·.1)).Nodup:=by
  rw[e]
  refine nodup_cons' (fun x hx => ?_) (nodup_cons' (fun x hx => ?_) S.nsn)
  ·rcases List.mem_cons.mp hx with rfl | hx
   ·trivial
   ·have:=(S.nsl x hx).1
    trivial
  ·have:=(S.nsl x hx).1
   trivial
 refine ⟨stk_of (by rw[S.nsS]; unfold nLv; rw[List.map_cons,List.map_cons,List.map_map]; rfl) nd fun p hp => ?_,(walk_of nd).trans (nLv_walk ns)⟩
 rcases List.mem_cons.mp hp with rfl | hp
 ·exact ⟨by show b+7<n; trivial,f7⟩
 rcases List.mem_cons.mp hp with rfl | hp
 ·exact ⟨by show b+8<n; trivial,f8.trans (by rw[S.told])⟩
 ·obtain ⟨l,hl,rfl⟩:=List.mem_map.mp hp
  obtain ⟨h1,h2,h3⟩:=S.nsl l hl
  exact ⟨h2,(mk3_at (.inr h1)).trans h3⟩
theorem St3.us{ls ns}(S:St3 b s G n ls ns):(∀ u∈usOf ls,u∈u5)∧xmlU∈usOf ls∧(usOf ls).length≤101:=by
 refine ⟨fun u hu => ?_,List.mem_append_right _ (.head _),?_⟩
 ·rcases List.mem_append.mp hu with hu | hu
  ·obtain ⟨l,hl,hu⟩:=List.mem_flatMap.mp hu
   exact u45 u ((S.lv l (List.mem_reverse.mp hl)).2.2.2 u hu)
  ·rw[List.mem_singleton.mp hu]; exact m5 (by decide+kernel)
 ·unfold usOf
  rw[List.length_append]
  have e:(ls.reverse.flatMap (·.2)).length=(ls.flatMap (·.2)).length:=by
   rw[List.length_flatMap,List.length_flatMap,List.map_reverse,List.sum_reverse]
  rw[e]
  have:=S.few.1
  exact Nat.succ_le_succ this
theorem t_qn{k:Nat}{m:Nm}(hm:m∈kn){ls:List (Nat×List Str)}{d:Nat}{D:List Str}{ns:List Nat}(S:St3 b s G n (ls++[(d,D)]) ns)(hfew:((ls++[(d,D)]).flatMap (·.2)).length≤99):
  Ex2_5 (fun G' n'=>n≤n') (fun G' n'=>n'≤n+2) (fun G' n'=>(∀ i,i<n→i≠d→G' i=G i)) (fun G' n'=>St3 b s G' n' (ls++[(d,D++((dcl (usOf (ls++[(d,D)])) m).map (·.1)).toList)]) ns) (fun G' n'=>Ev (pe3 P sa is) (k+40) (.c (.mt 90 (.ref (b+2))) [.str m.q] [] (mk3 b s G n)) (.v (.tup [.str m.full,.str m.tag,.str m.uri]) (mk3 b s G' n'))):=by
 have M:=kn_ok m hm
 obtain ⟨sd,wd⟩:=S.sd
 obtain ⟨sn,wn⟩:=S.sn
 obtain ⟨hu1,hu2,hu3⟩:=S.us
 have hd:=S.lv (d,D) (List.mem_append_right _ (.head _))
 have hlast:((dLv b (ls++[(d,D)])).map (·.1)).getLast? = some d:=by
  rw[dLv_fst,List.map_append,← List.cons_append]; exact List.getLast?_concat
 have hr:=qres_kn (NL:=told4++nsL) M hu1 hu2 (by decide+kernel) (by decide+kernel)
 rw[← wd,← wn] at hr
 obtain ⟨G',n',h1,h2,h3,h4,h5⟩:=t_qname (P:=P) (sa:=sa) (is:=is) (k:=k) S.hn M.lq M.parse M.lu M.lt sd sn hlast (.inr hd.1) (by
  rw[wd]
  refine ⟨by rw[List.length_map]; trivial,fun p hp => ?_⟩
  obtain ⟨u,hu,rfl⟩:=List.mem_map.mp hp
  have:∀ u∈u5,(pfxU u).length≤1000:=by decide+kernel
  exact this u (hu1 u hu)) (by rw[wn]; exact ⟨leR rfl,by decide+kernel⟩) hr
 have hdl:lvOf (dLv b (ls++[(d,D)])) d=D.map cp:=by
  unfold lvOf dLv
  have hne:d≠b+4:=by have:=hd.1; dsimp only at this; trivial
  have hnd:((ls++[(d,D)]).map fun l=>(l.1,l.2.map cp)).map (·.1)=(ls++[(d,D)]).map (·.1):=by rw[List.map_map]; rfl
  rw[List.lookup_cons,beq_false_of_ne hne]
  show Option.getD (List.lookup d ((ls++[(d,D)]).map fun l=>(l.1,l.2.map cp))) []=_
  rw[lk_nodup (p:=(d,D.map cp)) (by rw[hnd]; exact S.nd) (List.mem_map_of_mem (f:=fun l:Nat×List Str=>(l.1,l.2.map cp)) (List.mem_append_right ls (.head _)))]; rfl
 refine ⟨G',n',h1,h2,h3,?_,h5⟩
 have hdc:∀ u,u∈((dcl (usOf (ls++[(d,D)])) m).map (·.1)).toList→u∈u4:=fun u hu=>by
  unfold dcl at hu
  by_cases hc:m.uri∈u4∧m.uri∉usOf (ls++[(d,D)])
  ·rw[if_pos hc] at hu
   rw[List.mem_singleton.mp (show u∈[m.uri] from hu)]; exact hc.1
  ·rw[if_neg hc] at hu; exact nomatch (show u∈([]:List Str) from hu)
 have nd:=S.nd
 rw[List.map_append] at nd
 refine ⟨Nat.le_trans S.hn h1,by rw[S.decl,List.map_append,List.map_append]; rfl,fun l hl => ?_,by rw[List.map_append]; exact nd,S.nsS,fun e he => ?_,S.nsn,S.told,fun e he l hl => ?_,?_,S.few.2⟩
 ·rcases List.mem_append.mp hl with hl | hl
  ·obtain ⟨g1,g2,g3,g4⟩:=S.lv l (List.mem_append_left _ hl)
   refine ⟨g1,by trivial,(h3 l.1 g2 fun e => ?_).trans g3,g4⟩
   exact (List.nodup_append.mp nd).2.2 l.1 (List.mem_map_of_mem hl) d (.head _) e
  ·rw[List.mem_singleton.mp hl]
   refine ⟨hd.1,by have:=hd.2.1; dsimp only at this ⊢; trivial,?_,fun u hu => ?_⟩
   ·show G' d=_
    rw[h4,hdl,List.map_append]
    cases hc:dcl (usOf (ls++[(d,D)])) m with
    | none=>rw[show (Option.map (fun x:Str×Str=>x.1) none).toList=[] from rfl,List.append_nil]; exact congrArg _ (List.append_nil _)
    | some p =>
     have:p=cp p.1:=by
      unfold dcl at hc
      by_cases hq:m.uri∈u4∧m.uri∉usOf (ls++[(d,D)])
      ·rw[if_pos hq] at hc; cases hc; rfl
      ·rw[if_neg hq] at hc; exact noS hc
     rw[this]
     show AObj.list ((D.map cp).map pv++[pv (cp p.1)])=AObj.list (((D++[p.1]).map cp).map pv)
     rw[List.map_append,List.map_append]; rfl
   ·rcases List.mem_append.mp hu with hu | hu
    ·exact hd.2.2.2 u hu
    ·exact hdc u hu
 ·obtain ⟨g1,g2,g3⟩:=S.nsl e he
  refine ⟨g1,by trivial,(h3 e g2 fun q => ?_).trans g3⟩
  exact S.apart e he (d,D) (List.mem_append_right _ (.head _)) q
 ·rcases List.mem_append.mp hl with hl | hl
  ·exact S.apart e he l (List.mem_append_left _ hl)
  ·rw[List.mem_singleton.mp hl]; exact S.apart e he (d,D) (List.mem_append_right _ (.head _))
 ·rw[List.flatMap_append,List.length_append] at hfew ⊢
  have e1:([(d,D)].flatMap (·.2))=D:=List.append_nil D
  have e2:∀ X:List Str,[(d,X)].flatMap (·.2)=X:=fun X=>List.append_nil X
  rw[e1] at hfew
  rw[e2,List.length_append]
  have:(((dcl (usOf (ls++[(d,D)])) m).map (·.1)).toList).length≤1:=by
   cases dcl (usOf (ls++[(d,D)])) m <;> exact leR rfl
  trivial
end
section
theorem us_snoc(ls:List (Nat×List Str))(d:Nat)(D:List Str):usOf (ls++[(d,D)])=D++usOf ls:=by
 unfold usOf
 rw[List.reverse_append,List.flatMap_append,List.append_assoc]
 show (D++[])++_=_
 rw[List.append_nil]
noncomputable def addN(us0 D:List Str)(m:Nm):List Str:=D++((dcl (D++us0) m).map (·.1)).toList
theorem addN_len(us0 D:List Str)(m:Nm):(addN us0 D m).length≤D.length+1:=by
 unfold addN
 rw[List.length_append]
 refine Nat.add_le_add_left ?_ _
 cases dcl (D++us0) m <;> exact leR rfl
noncomputable def dcK(o:Option Stmt):Expr:=(ev1 (sO o).1).1
noncomputable def dcV(o:Option Stmt):Expr:=(ev1 (sO o).1).2.1
noncomputable def dcT(o:Option Stmt):Expr:=(ev1 (sO o).1).2.2.head?.elim e0 (·.target)
variable {b:Nat} {s:S3} {G:Nat→AObj} {n:Nat} {P:Params} {sa:Addr} {is:List Int}
noncomputable def sc_pq:Sc:=[(".0",.local),("n",.local),("parse_qname",.free)]
noncomputable def tqV(m:Nm):V := .tup [.str m.full,.str m.tag,.str m.uri]
noncomputable def rowV(m:Nm):V := .tup [.str m.q,tqV m]
noncomputable abbrev locP(b:Nat):Loc:=[("parse_qname",.mt 90 (.ref (b+2)))]
theorem flen(ls:List (Nat×List Str))(d:Nat)(D:List Str):((ls++[(d,D)]).flatMap (·.2)).length=(ls.flatMap (·.2)).length+D.length:=by
 rw[List.flatMap_append,List.length_append]
 show _+(D++[]).length=_
 rw[List.append_nil]
theorem pq_run{k:Nat}{ls:List (Nat×List Str)}{d w:Nat}{ns:List Nat}{H0:Hp}(hwd:w≠d){ms:List Nm}:∀ {D:List Str} {G:Nat→AObj} {n:Nat},(∀ m∈ms,m∈kn)→St3 b s G n (ls++[(d,D)]) ns→b+11≤w→w<n→H0.f w=G w→(ls.flatMap (·.2)).length+D.length+ms.length≤90 →
  Ex2_5 (fun G' n'=>n≤n') (fun G' n'=>n'≤n+2*ms.length) (fun G' n'=>(∀ i,i<n→i≠d→G' i=G i)) (fun G' n'=>St3 b s G' n' (ls++[(d,ms.foldl (addN (usOf ls)) D)]) ns) (fun G' n'=>Ev (pe3 P sa is) (k+45) (.cl sc_pq (.kv (dcK (bodyAt (hd.heap_39 P) 126)[6]?) (dcV (bodyAt (hd.heap_39 P) 126)[6]?)) [] (dcT (bodyAt (hd.heap_39 P) 126)[6]?) [] (locP b) (some w) H0 (ms.map fun m => .str m.q) (mk3 b s G n)) (.l (ms.map rowV) (mk3 b s G' n'))):=by
 induction ms with
 | nil=>exact fun {D G n} ι S ι ι ι ι=>⟨G,n,Nat.le_refl _,Nat.le_refl _,fun ι ι ι=>rfl,S,cl_nil⟩
 | cons m ms ih =>
  intro D G n hm S hw1 hw2 hw3 hf
  rw[List.length_cons] at hf
  obtain ⟨G1,n1,h1,h2,h3,h4,h5⟩:=t_qn (P:=P) (sa:=sa) (is:=is) (k:=k+4) (hm m (.head _)) S (by rw[flen]; trivial)
  rw[us_snoc] at h4
  have hl:=addN_len (usOf ls) D m
  have hw4:H0.f w=G1 w:=by rw[h3 w hw2 hwd]; exact hw3
  obtain ⟨G2,n2,g1,g2,g3,g4,g5⟩:=ih (D:=addN (usOf ls) D m) (G:=G1) (n:=n1) (fun y hy=>hm y (.tail _ hy)) h4 hw1 (by trivial) hw4 (by trivial)
  refine ⟨G2,n2,by trivial,by rw[List.length_cons]; trivial,fun i hi hid=>(g3 i (by trivial) hid).trans (h3 i hi hid),g4,?_⟩
  have st:stands H0 (mk3 b s G1 n1) (some w):=(mk3_at (.inr hw1)).trans hw4.symm
  have hin:=in_kv (pe:=pe3 P sa is) (n:=k+45) (sc:=sc_pq) (loc:=locP b++([("n",.str m.q)]:Loc)) (H:=mk3 b s G n) (k:=dcK (bodyAt (hd.heap_39 P) 126)[6]?) (x:=dcV (bodyAt (hd.heap_39 P) 126)[6]?) (ev_Name rfl) (ev_CallN rfl (ca_mt (fn_qname P sa is)) (evL_cons rfl (ev_Name rfl) evL_nil) evKw_nil h5)
  exact cl_cons (loc':=locP b++([("n",.str m.q)]:Loc)) rfl ifs_nil hin st g5
theorem setL_app{l:Loc}{x:Str}{v:V}(h:l.lookup x=none):setL l x v=l++[(x,v)]:=by
 induction l with
 | nil=>rfl
 | cons p l ih =>
  rw[List.lookup_cons] at h
  have hne:p.1≠x:=fun e=>by rw[e,beq_self_eq_true] at h; exact noS h.symm
  rw[beq_false_of_ne (Ne.symm hne)] at h
  have e:setL (p::l) x v=p::setL l x v:=if_neg hne
  rw[e,ih h]; rfl
theorem dict_fold{ms:List Nm}:∀ {acc:Loc},(ms.map (·.q)).Nodup→(∀ m∈ms,acc.lookup m.q=none)→(ms.map rowV).foldl (fun d p=>setL d (kvOf p).1 (kvOf p).2) acc=acc++ms.map fun m=>(m.q,tqV m):=by
 induction ms with
 | nil=>exact fun ι ι=>(List.append_nil _).symm
 | cons m ms ih =>
  intro acc hn h
  obtain ⟨h1,h2⟩:=List.nodup_cons.mp hn
  show (ms.map rowV).foldl _ (setL acc m.q (tqV m))=_
  rw[setL_app (h m (.head _)),ih h2 fun y hy => ?_,List.append_assoc]; rfl
  rw[List.lookup_append,h y (.tail _ hy),List.lookup_cons,beq_false_of_ne fun (e:y.q=m.q)=>h1 (by show m.q∈_; rw[← e]; exact List.mem_map_of_mem (f:=(·.q)) hy)]; rfl
theorem dictL_rows{ms:List Nm}(hn:(ms.map (·.q)).Nodup):dictL (ms.map rowV)=ms.map fun m=>(m.q,tqV m):=by
 have:=dict_fold (acc:=[]) hn fun ι ι=>rfl
 exact this
end
section
noncomputable def t4:List Nm:=[nDA,nUA,nVB,nWB]
noncomputable def k4:List Nm:=[nK,nUK,nVK,nXL]
structure AtOk (at':List (Nm×Str)):Prop where
 sub:(at'.map (·.1)).Sublist k4
 val:∀ p∈at',p.2.length≤1000
noncomputable def kvsOf(at':List (Nm×Str)):List (Str×V):=at'.map fun p=>(p.1.q,.str p.2)
noncomputable def msOf(tag:Nm)(at':List (Nm×Str)):List Nm:=kn.filter fun m=>(tag.q::at'.map (·.1.q)).contains m.q
theorem mem_addL{ks:List Str}{k x:Str}:x∈addL ks k↔x∈ks∨x=k:=by
 unfold addL
 by_cases h:ks.contains k=true
 ·rw[if_pos h]
  exact ⟨.inl,fun q=>q.elim id fun e=>e▸List.contains_iff_mem.mp h⟩
 ·rw[if_neg h,List.mem_cons]
  exact Or.comm
theorem mem_addAll{l:List Str}:∀ {ks:List Str} {x:Str},x∈addAll ks l↔x∈ks∨x∈l:=by
 induction l with
 | nil=>exact fun {ks x}=>⟨.inl,fun q=>q.elim id fun q=>nomatch q⟩
 | cons k l ih =>
  intro ks x
  show x∈addAll (addL ks k) l↔_
  rw[ih,mem_addL,List.mem_cons,or_assoc]
theorem nd_addAll{l:List Str}:∀ {ks:List Str},ks.Nodup→(addAll ks l).Nodup:=by
 induction l with
 | nil=>exact fun {ks} h=>h
 | cons k l ih=>exact fun {ks} h=>ih (addL_nodup h)
noncomputable def knq:List Str:=kn.map (·.q)
theorem knq_nd:knq.Nodup:=by decide+kernel
theorem knq_pw:knq.Pairwise fun a c=>ltName a c=true∧ltName c a=false:=by decide+kernel
theorem sorts_known{ks:List Str}(hn:ks.Nodup)(h5:ks.length≤5)(hk:∀ x∈ks,x∈knq):SortsTo ks (knq.filter (ks.contains ·)) :=
 ⟨h5,fun l hl=>by
  rw[srt_known knq_pw knq_nd (hl.nodup_iff.mpr hn) (by rw[hl.length_eq]; exact h5) fun x hx=>hk x (hl.mem_iff.mp hx)]
  refine congrArg (fun f=>knq.filter f) (funext fun x => ?_)
  rw[Bool.eq_iff_iff,List.contains_iff_mem,List.contains_iff_mem]
  exact hl.mem_iff⟩
theorem k4_kn:∀ m∈k4,m∈kn:=fc (.head _) (fc (.tail _ (.tail _ (.tail _ (.tail _ (.head _))))) (fc (.tail _ (.tail _ (.tail _ (.tail _ (.tail _ (.tail _ (.head _))))))) (fc (.tail _ (.tail _ (.head _))) fn)))
theorem t4_kn:∀ m∈t4,m∈kn:=fc (.tail _ (.head _)) (fc (.tail _ (.tail _ (.tail _ (.head _)))) (fc (.tail _ (.tail _ (.tail _ (.tail _ (.tail _ (.head _)))))) (fc (.tail _ (.tail _ (.tail _ (.tail _ (.tail _ (.tail _ (.tail _ (.head _)))))))) fn)))
theorem AtOk.mem{at':List (Nm×Str)}(h:AtOk at'):∀ p∈at',p.1∈k4:=fun p hp=>h.sub.subset (List.mem_map_of_mem (f:=(·.1)) hp)
theorem AtOk.len{at':List (Nm×Str)}(h:AtOk at'):at'.length≤4:=by
 have:=h.sub.length_le
 rwa [List.length_map] at this
theorem set_names{tag:Nm}(ht:tag∈t4){at':List (Nm×Str)}(h:AtOk at'):SortsTo (addAll [tag.q] ((kvsOf at').map (·.1))) ((msOf tag at').map (·.q))∧(addAll [tag.q] ((kvsOf at').map (·.1))).all (fun k=>decide (k.length+2≤lim))=true:=by
 have e:(kvsOf at').map (·.1)=at'.map (·.1.q):=by unfold kvsOf; rw[List.map_map]; rfl
 rw[e]
 have hin:∀ x∈addAll [tag.q] (at'.map (·.1.q)),x∈knq:=fun x hx=>by
  rcases mem_addAll.mp hx with hx | hx
  ·rw[List.mem_singleton.mp hx]; exact List.mem_map_of_mem (t4_kn _ ht)
  ·obtain ⟨p,hp,rfl⟩:=List.mem_map.mp hx
   exact List.mem_map_of_mem (k4_kn _ (h.mem p hp))
 have hs:=sorts_known (nd_addAll (l:=at'.map (·.1.q)) (ks:=[tag.q]) (by simp)) (by
  have h1:=addAll_len [tag.q] (at'.map (·.1.q))
  have h2:=h.len
  rw[List.length_map] at h1
  exact Nat.le_trans h1 (by show 1+_≤5; trivial)) hin
 refine ⟨?_,List.all_eq_true.mpr fun x hx=>decide_eq_true ?_⟩
 ·have e2:knq.filter ((addAll [tag.q] (at'.map (·.1.q))).contains ·)=(msOf tag at').map (·.q):=by
   unfold knq msOf
   rw[List.filter_map]
   refine congrArg (fun f=>(kn.filter f).map (·.q)) (funext fun m => ?_)
   show List.contains _ m.q=List.contains _ m.q
   rw[Bool.eq_iff_iff,List.contains_iff_mem,List.contains_iff_mem,mem_addAll,List.mem_singleton]
   exact List.mem_cons.symm
  rw[← e2]; exact hs
 ·have:∀ y∈knq,y.length+2≤lim:=by decide+kernel
  exact this x (hin x hx)
theorem ms_kn{tag:Nm}{at':List (Nm×Str)}:∀ m∈msOf tag at',m∈kn:=fun m hm=>(List.mem_filter.mp hm).1
theorem ms_nd{tag:Nm}{at':List (Nm×Str)}:((msOf tag at').map (·.q)).Nodup:=by
 have h:((msOf tag at').map (·.q)).Sublist knq:=(List.filter_sublist (l:=kn)).map _
 exact h.nodup knq_nd
theorem ms_len{tag:Nm}{at':List (Nm×Str)}:(msOf tag at').length≤8:=List.length_filter_le _ _
variable {b:Nat} {s:S3} {G:Nat→AObj} {n:Nat} {P:Params} {sa:Addr} {is:List Int}
theorem St3.up{G':Nat→AObj}{n':Nat}{ls:List (Nat×List Str)}{ns:List Nat}(S:St3 b s G n ls ns)(hn:n≤n')(hG:∀ i,i<n→G' i=G i):St3 b s G' n' ls ns :=
 ⟨Nat.le_trans S.hn hn,S.decl,fun l hl=>let ⟨a,c,d,e⟩:=S.lv l hl; ⟨a,Nat.lt_of_lt_of_le c hn,(hG _ c).trans d,e⟩,S.nd,S.nsS,fun e he=>let ⟨a,c,d⟩:=S.nsl e he; ⟨a,Nat.lt_of_lt_of_le c hn,(hG _ c).trans d⟩,S.nsn,S.told,S.apart,S.few⟩
theorem glob_sorted:(pe3 P sa is).glob "sorted"=some (.bf .sorted):=by kernel_rfl
noncomputable def sc_st:Sc:=[("self",.cell),("tag",.local),("attrs",.local),("new_namespaces",.local),("qname_text",.local),("k",.local),("v",.local),("qnames",.local),("resolved_names",.local),("qname",.local),("qattrs",.local),("attr_name",.local),("value",.local),("parse_qname",.cell),("parsed_qnames",.local),("uri",.local),("attr_list",.local),("attr_qname",.local),("space_behaviour",.local),("write",.local),("_looks_like_prefix_name",.globalImplicit),("sorted",.globalImplicit),("_escape_cdata_c14n",.globalImplicit)]
theorem nm_st:(fdAt (hd.heap_39 P) 126).scope.names=sc_st:=by kernel_rfl
theorem body_st:(fdAt (hd.heap_39 P) 126).body = .stmts (bodyAt (hd.heap_39 P) 126):=by kernel_rfl
theorem lam_st:(pe3 P sa is).lam sc_st=some (125,123,lamName):=by
 show (if sc_st=(fdAt (hd.heap_39 P) 126).scope.names then some ((125:Addr),(123:Addr),lamName) else none)=_
 rw[if_pos nm_st.symm]
noncomputable abbrev locS0(b:Nat)(t:Str)(a d:Nat):Loc:=[("self",.ref (b+2)),("tag",.str t),("attrs",.ref a),("new_namespaces",.ref d),("qname_text",.none)]
noncomputable abbrev locS1(b:Nat)(t:Str)(a d q1 q2 pq:Nat):Loc:=[("self",.ref (b+2)),("tag",.str t),("attrs",.ref a),("new_namespaces",.ref d),("qname_text",.none),("qnames",.ref q1),("resolved_names",.ref q2),("qattrs",.none),("parse_qname",.mt 90 (.ref (b+2))),("parsed_qnames",.ref pq)]
theorem st_1{k:Nat}{tag:Nm}(ht:tag∈t4){at':List (Nm×Str)}(h:AtOk at'){ls:List (Nat×List Str)}{a d:Nat}{ns:List Nat}(S:St3 b s G n (ls++[(d,[])]) ns)(hf:(ls.flatMap (·.2)).length≤80)(ha:b+11≤a∧a<n∧a≠d)(hGa:G a = .dict (kvsOf at'))(h0:0<b)(hG0:G 0 = .tab 123 lamName):
  Ex5_7 (fun G' n' q1 q2 pq=>n≤pq) (fun G' n' q1 q2 pq=>pq<n') (fun G' n' q1 q2 pq=>n'≤n+20) (fun G' n' q1 q2 pq=>(∀ i,i<n→i≠d→G' i=G i)) (fun G' n' q1 q2 pq=>G' pq = .dict ((msOf tag at').map fun m=>(m.q,tqV m))) (fun G' n' q1 q2 pq=>St3 b s G' n' (ls++[(d,(msOf tag at').foldl (addN (usOf ls)) [])]) ns) (fun G' n' q1 q2 pq=>∀ fl lc h,Ev (pe3 P sa is) (k+60) (.xs sc_st ((bodyAt (hd.heap_39 P) 126).drop 7) (locS1 b tag.q a d q1 q2 pq) (mk3 b s G' n')) (.f fl lc h)→Ev (pe3 P sa is) (k+60) (.xs sc_st (bodyAt (hd.heap_39 P) 126) (locS0 b tag.q a d) (mk3 b s G n)) (.f fl lc h)):=by
 have hn:=S.hn
 have hdl:=S.lv (d,[]) (List.mem_append_right _ (.head _))
 obtain ⟨so,sl⟩:=set_names ht h
 let ks:=addAll [tag.q] ((kvsOf at').map (·.1))
 let G1:=upd G n (.set ks)
 let G2:=upd G1 (n+1) (.dict [])
 let G3:=upd G2 (n+2) (.list (((msOf tag at').map (·.q)).map .str))
 have low:∀ i,i<n→G3 i=G i:=fun i hi=>(upd_ne (by trivial)).trans ((upd_ne (by trivial)).trans (upd_ne (by trivial)))
 have S3':St3 b s G3 (n+3) (ls++[(d,[])]) ns:=S.up (by trivial) low
 have hd1:d<n:=hdl.2.1
 obtain ⟨G4,n4,g1,g2,g3,g4,g5⟩:=pq_run (P:=P) (sa:=sa) (is:=is) (k:=k+13) (ls:=ls) (d:=d) (w:=n+2) (H0:=mk3 b s G3 (n+3)) (by trivial) (ms:=msOf tag at') (D:=[]) ms_kn S3' (by trivial) (by trivial) (mk3_at (.inr (by trivial))) (by
  have:=ms_len (tag:=tag) (at':=at')
  show _+0+_≤90
  trivial)
 have hml:=ms_len (tag:=tag) (at':=at')
 have a1:(mk3 b s G n).alloc (.set ks)=mk3 b s G1 (n+1):=mk3_alloc hn
 have a2:(mk3 b s G1 (n+1)).alloc (.dict [])=mk3 b s G2 (n+2):=mk3_alloc (by trivial)
 have a3:(mk3 b s G2 (n+2)).alloc (.list (((msOf tag at').map (·.q)).map .str))=mk3 b s G3 (n+3):=mk3_alloc (by trivial)
 have a4:(mk3 b s G4 n4).alloc (.dict (dictL ((msOf tag at').map rowV)))=mk3 b s (upd G4 n4 (.dict ((msOf tag at').map fun m=>(m.q,tqV m)))) (n4+1):=by
  rw[dictL_rows ms_nd]; exact mk3_alloc (by trivial)
 have hks:(mk3 b s G2 (n+2)).f n = .set ks:=(mk3_at (.inr hn)).trans ((upd_ne (by trivial)).trans upd_at)
 have hz:(mk3 b s G2 (n+2)).f 0 = .tab 123 lamName:=by
  rw[mk3_at (.inl h0)]
  exact (upd_ne (by trivial)).trans ((upd_ne (by trivial)).trans hG0)
 have hit:items (mk3 b s G3 (n+3)) (.ref (n+2))=some ((msOf tag at').map fun m => .str m.q,some (n+2)):=by
  refine items_ref ((mk3_at (.inr (by trivial))).trans (upd_at.trans ?_))
  rw[List.map_map]; rfl
 have hda:(mk3 b s G n).f a = .dict (kvsOf at'):=(mk3_at (.inr ha.1)).trans hGa
 have hkl:(kvsOf at').length≤4:=by unfold kvsOf; rw[List.length_map]; exact h.len
 have hl:((msOf tag at').map rowV).length≤lim:=by rw[List.length_map]; exact toLim (by trivial)
 refine ⟨upd G4 n4 (.dict ((msOf tag at').map fun m=>(m.q,tqV m))),n4+1,n,n+1,n4,by trivial,by trivial,by trivial,fun i hi hid => ?_,upd_at,g4.up (by trivial) (fun i hi=>upd_ne (by trivial)),fun fl lc h hz' => ?_⟩
 ·exact (upd_ne (by trivial)).trans ((g3 i (by trivial) hid).trans (low i hi))
 exact xs_cons (xv_If (tv_Bool (test_stop (tv_Cmp rfl (ev_Attr rfl (ev_Name rfl) (fs rfl rfl) rfl) (ev_Const rfl) (cmpR rfl)) rfl)) xs_nil)
  (xs_cons (xv_Asg rfl (fun ι=>rfl) (ev_Set rfl rfl hda hkl a1) (asgs_one rfl (asg_Name rfl)))
  (xs_cons (xv_Asg rfl (fun ι=>rfl) (ev_Dict0 a2) (asgs_one rfl (asg_Name rfl)))
  (xs_cons (xv_If (tv_Cmp rfl (ev_Name rfl) (ev_Const rfl) (cmpR rfl)) xs_nil)
  (xs_cons (xv_If (tv_Bool (test_stop (tv_Cmp rfl (ev_Attr rfl (ev_Name rfl) (fs rfl rfl) rfl) (ev_Const rfl) (cmpR rfl)) rfl)) (xs_cons (xv_Asg rfl (fun ι=>rfl) (ev_Const rfl) (asgs_one rfl (asg_Name rfl))) xs_nil))
  (xs_cons (xv_Asg rfl (fun ι=>rfl) (ev_Attr rfl (ev_Name rfl) (fm rfl rfl) rfl) (asgs_one rfl (asg_Name rfl)))
  (xs_cons (xv_AsgC rfl (ev_DC rfl rfl (ev_SortK (ks:=ks) rfl rfl (lk_glob (by decide) rfl glob_sorted) (ev_Name rfl) hks lam_st (show 0<n+2 by trivial) hz so sl a3) hit rfl g5 hl a4) (asgs_one rfl (asg_Name rfl))) hz'))))))
end
theorem srt_map{α β:Type}{d:α}{e:β}{lt:β→β→Bool}{f:α→β}{xs:List α}(h5:xs.length≤5):srt e lt (xs.map f)=(srt d (fun a c=>lt (f a) (f c)) xs).map f:=by
 unfold srt
 rw[List.length_map]
 by_cases h2:xs.length<2
 ·rw[if_pos h2,if_pos h2]
 rw[if_neg h2,if_neg h2,List.map_map]
 have h25:2≤xs.length∧xs.length≤5:=⟨Nat.le_of_not_lt h2,h5⟩
 have g:∀ i,i<xs.length→(xs.map f).getD i e=f (xs.getD i d):=fun i hi=>by
  rw[List.getD_eq_getElem?_getD,List.getElem?_map,List.getElem?_eq_getElem hi,List.getD_eq_getElem?_getD,List.getElem?_eq_getElem hi]; rfl
 have ep:srtP e lt (xs.map f)=srtP d (fun a c=>lt (f a) (f c)) xs:=by
  unfold srtP
  rw[List.length_map]
  refine congrArg Array.toList (krun_congr (fun i j hi hj ι => ?_) _ (low_sort h25))
  rw[g i hi,g j hj]
 rw[ep]
 refine List.map_congr_left fun i hi => ?_
 exact g i ((srtP_ok h25).2 i hi)
theorem sortV_of{α:Type}{d:α}{f:α→V}{r:α→Nat}{xs:List α}(hk:∀ a∈xs,isPairV (f a)=true)(h5:xs.length≤5):SortV (xs.map f) ((srt d (fun a c=>ltPair (f a) (f c)) xs).map f) :=
 ⟨.inl (List.all_eq_true.mpr fun v hv=>by obtain ⟨a,ha,rfl⟩:=List.mem_map.mp hv; exact hk a ha),by rw[List.length_map]; exact h5,srt_map h5⟩
theorem srt_self{α:Type}{d:α}{lt:α→α→Bool}{r:α→Nat}{xs:List α}(h5:xs.length≤5)(hp:xs.Pairwise fun a c=>r a<r c)(hr:∀ a∈xs,∀ c∈xs,r a≠r c→lt a c=decide (r a<r c)):srt d lt xs=xs:=by
 have nd:xs.Nodup:=hp.imp fun {a c} h (q:a=c)=>Nat.lt_irrefl (r c) (by rw[q] at h; exact h)
 have inj:∀ a∈xs,∀ c∈xs,a≠c→r a≠r c:=fun a ha c hc hne q=>by
  obtain ⟨i,hi,rfl⟩:=List.mem_iff_getElem.mp ha
  obtain ⟨j,hj,rfl⟩:=List.mem_iff_getElem.mp hc
  have pw:=List.pairwise_iff_getElem.mp hp
  rcases Nat.lt_trichotomy i j with h | h | h
  ·have:=pw i j hi hj h; trivial
  ·subst h; exact hne rfl
  ·have:=pw j i hj hi h; trivial
 obtain ⟨h1,h2⟩:=srt_rank (d:=d) (lt:=lt) (r:=r) nd h5 fun a ha c hc hne=>⟨inj a ha c hc hne,hr a ha c hc (inj a ha c hc hne)⟩
 exact List.Perm.eq_of_pairwise (le:=fun a c=>r a<r c) (fun a c ι ι h3 h4=>absurd h3 (Nat.lt_asymm h4)) h2 hp h1
noncomputable def ru(u:Str):Nat:=u4.idxOf u
theorem kn_pw:kn.Pairwise fun m m'=>m.uri∈u4→m'.uri∈u4→ru m.uri≤ru m'.uri:=by
 have:(kn.map (·.uri)).Pairwise fun a c=>a∈u4→c∈u4→ru a≤ru c:=by decide+kernel
 exact List.pairwise_map.mp this
theorem ru_inj:∀ a∈u4,∀ c∈u4,ru a=ru c→a=c:=by
 have:u4.all (fun a=>u4.all fun c => !(Nat.beq (ru a) (ru c))||a==c)=true:=by decide+kernel
 intro a ha c hc h
 have:=List.all_eq_true.mp (List.all_eq_true.mp this a ha) c hc
 rw[h,show Nat.beq (ru c) (ru c)=true from Nat.beq_refl _] at this
 exact beq_iff_eq.mp this
theorem dd_ok{us:List Str}{ms:List Nm}:∀ {D:List Str},ms.Pairwise (fun m m'=>m.uri∈u4→m'.uri∈u4→ru m.uri≤ru m'.uri)→(∀ u∈D,u∈u4)→D.Pairwise (fun a c=>ru a<ru c)→(∀ u∈D,∀ m∈ms,m.uri∈u4→ru u≤ru m.uri) →
  (ms.foldl (addN us) D).Pairwise (fun a c=>ru a<ru c)∧∀ u,u∈ms.foldl (addN us) D↔u∈D∨(u∈u4∧u∉us∧∃ m∈ms,m.uri=u):=by
 induction ms with
 | nil=>exact fun {D} ι ι h ι=>⟨h,fun u=>⟨.inl,fun q=>q.elim id fun ⟨_,_,m,hm,_⟩=>nomatch hm⟩⟩
 | cons m ms ih =>
  intro D hp hD hs hle
  obtain ⟨hp1,hp2⟩:=List.pairwise_cons.mp hp
  have e0:(m::ms).foldl (addN us) D=ms.foldl (addN us) (addN us D m):=rfl
  rw[e0]
  by_cases hc:m.uri∈u4∧m.uri∉D++us
  ·have ea:addN us D m=D++[m.uri]:=by unfold addN dcl; rw[if_pos hc]; rfl
   have hnD:m.uri∉D:=fun q=>hc.2 (List.mem_append_left _ q)
   have hnu:m.uri∉us:=fun q=>hc.2 (List.mem_append_right _ q)
   rw[ea]
   obtain ⟨i1,i2⟩:=ih (D:=D++[m.uri]) hp2 (fun u hu=>(List.mem_append.mp hu).elim (hD u) fun q=>by rw[List.mem_singleton.mp q]; exact hc.1)
    (List.pairwise_append.mpr ⟨hs,List.pairwise_singleton _ _,fun a ha c hc'=>by
     rw[List.mem_singleton.mp hc']
     have h1:=hle a ha m (.head _) hc.1
     have h2:ru a≠ru m.uri:=fun q=>hnD (ru_inj a (hD a ha) m.uri hc.1 q▸ha)
     trivial⟩)
    (fun u hu m' hm' h4=>(List.mem_append.mp hu).elim (fun q=>hle u q m' (.tail _ hm') h4) fun q=>by rw[List.mem_singleton.mp q]; exact hp1 m' hm' hc.1 h4)
   refine ⟨i1,fun u=>(i2 u).trans ?_⟩
   constructor
   ·rintro (q | ⟨a1,a2,m',hm',e⟩)
    ·rcases List.mem_append.mp q with q | q
     ·exact .inl q
     ·rw[List.mem_singleton.mp q]; exact .inr ⟨hc.1,hnu,m,.head _,rfl⟩
    ·exact .inr ⟨a1,a2,m',.tail _ hm',e⟩
   ·rintro (q | ⟨a1,a2,m',hm',e⟩)
    ·exact .inl (List.mem_append_left _ q)
    ·rcases List.mem_cons.mp hm' with rfl | hm'
     ·exact .inl (List.mem_append_right _ (by rw[e]; exact .head _))
     ·exact .inr ⟨a1,a2,m',hm',e⟩
  ·have ea:addN us D m=D:=by unfold addN dcl; rw[if_neg hc]; exact List.append_nil _
   rw[ea]
   obtain ⟨i1,i2⟩:=ih (D:=D) hp2 hD hs (fun u hu m' hm' h4=>hle u hu m' (.tail _ hm') h4)
   refine ⟨i1,fun u=>(i2 u).trans ?_⟩
   constructor
   ·rintro (q | ⟨a1,a2,m',hm',e⟩)
    ·exact .inl q
    ·exact .inr ⟨a1,a2,m',.tail _ hm',e⟩
   ·rintro (q | ⟨a1,a2,m',hm',e⟩)
    ·exact .inl q
    ·rcases List.mem_cons.mp hm' with rfl | hm'
     ·rw[e] at hc
      by_cases hD':u∈D
      ·exact .inl hD'
      ·exact absurd ⟨a1,fun q=>(List.mem_append.mp q).elim hD' a2⟩ hc
     ·exact .inr ⟨a1,a2,m',hm',e⟩
noncomputable def newU(us:List Str)(tag:Nm)(at':List (Nm×Str)):List Str:=(msOf tag at').foldl (addN us) []
theorem newU_ok{us:List Str}{tag:Nm}{at':List (Nm×Str)}:(newU us tag at').Pairwise (fun a c=>ru a<ru c)∧∀ u,u∈newU us tag at'↔u∈u4∧u∉us∧∃ m∈msOf tag at',m.uri=u:=by
 have hp:(msOf tag at').Pairwise fun m m'=>m.uri∈u4→m'.uri∈u4→ru m.uri≤ru m'.uri:=kn_pw.sublist List.filter_sublist
 obtain ⟨h1,h2⟩:=dd_ok (us:=us) (D:=[]) hp (fun ι h=>nomatch h) .nil (fun ι h=>nomatch h)
 exact ⟨h1,fun u=>(h2 u).trans ⟨fun q=>q.elim (fun q=>nomatch q) id,.inr⟩⟩
theorem newU_len{us:List Str}{tag:Nm}{at':List (Nm×Str)}:(newU us tag at').length≤4:=by
 obtain ⟨h1,h2⟩:=newU_ok (us:=us) (tag:=tag) (at':=at')
 have nd:(newU us tag at').Nodup:=h1.imp fun {a c} h (q:a=c)=>Nat.lt_irrefl (ru c) (by rw[q] at h; exact h)
 by_cases h:u4.length≤(newU us tag at').length
 ·rw[(perm_sub nd (fun u hu=>((h2 u).mp hu).1) h).length_eq]; exact leR rfl
 ·exact Nat.le_of_lt (Nat.lt_of_not_le h)
noncomputable def lab(u:Str):Str:=if (pfxU u).length=0 then "xmlns" else "xmlns:"++pfxU u
noncomputable def labP(u:Str):Str×Str:=(lab u,u)
theorem lab_lt:∀ u∈u4,∀ v∈u4,ru u≠ru v→ltPair (pv (labP u)) (pv (labP v))=decide (ru u<ru v):=by
 have:u4.all (fun u=>u4.all fun v=>Nat.beq (ru u) (ru v)||(ltPair (pv (labP u)) (pv (labP v))==decide (ru u<ru v)))=true:=by decide+kernel
 intro u hu v hv h
 have:=List.all_eq_true.mp (List.all_eq_true.mp this u hu) v hv
 rw[show Nat.beq (ru u) (ru v)=false from by cases e:Nat.beq (ru u) (ru v) with | false=>rfl | true=>exact absurd (Nat.eq_of_beq_eq_true e) h] at this
 exact beq_iff_eq.mp this
theorem sort_labs{D:List Str}(hu:∀ u∈D,u∈u4)(hp:D.Pairwise fun a c=>ru a<ru c)(h5:D.length≤5):SortV ((D.map labP).map pv) ((D.map labP).map pv):=by
 have h:=sortV_of (d:=Str.empty) (f:=fun u=>pv (labP u)) (r:=ru) (xs:=D) (fun ι ι=>rfl) h5
 rw[srt_self h5 hp fun a ha c hc=>lab_lt a (hu a ha) c (hu c hc)] at h
 rw[List.map_map]; exact h
noncomputable def sAt(at':List (Nm×Str)):List (Nm×Str):=srt (nK,Str.empty) (fun p q=>ltPair (pv (p.1.q,p.2)) (pv (q.1.q,q.2))) at'
theorem sort_at{at':List (Nm×Str)}(h5:at'.length≤5):SortV (at'.map fun p=>pv (p.1.q,p.2)) ((sAt at').map fun p=>pv (p.1.q,p.2)) :=
 sortV_of (r:=fun ι=>0) (fun ι ι=>rfl) h5
theorem sAt_mem{at':List (Nm×Str)}(h5:at'.length≤5):(∀ p∈sAt at',p∈at')∧(sAt at').length=at'.length:=by
 unfold sAt srt
 by_cases h2:at'.length<2
 ·rw[if_pos h2]; exact ⟨fun ι h=>h,rfl⟩
 rw[if_neg h2]
 obtain ⟨g1,g2⟩:=srtP_ok (d:=(nK,Str.empty)) (lt:=fun p q=>ltPair (pv (p.1.q,p.2)) (pv (q.1.q,q.2))) (xs:=at') ⟨Nat.le_of_not_lt h2,h5⟩
 refine ⟨fun p hp => ?_,by rw[List.length_map]; exact g1⟩
 obtain ⟨i,hi,rfl⟩:=List.mem_map.mp hp
 have hl:=g2 i hi
 rw[List.getD_eq_getElem?_getD,List.getElem?_eq_getElem hl]; exact List.getElem_mem hl
section
theorem xs_forget{pe:Pe}{n:Nat}{sc:Sc}{body:List Stmt}{loc0 loc loc':Loc}{H H2:Hp}{fl:Fl}(hl:∀ y v,loc0.lookup y=some v→loc.lookup y=some v)(x1:Ev pe n (.xs sc body loc0 H) (.f fl loc' H2)):Ev pe n (.xs sc body loc H) (.f fl loc' H2):=⟨fun {cx} Pk=>(fun {_ ι ι ι ι _} C hR=>(show GXs cx n sc body loc0 H fl loc' H2 from x1.go Pk) (C.to C.inv (C.vars.congr hl)) hR:GXs cx n sc body loc H fl loc' H2)⟩
theorem cl_map{α:Type}{pe:Pe}{m:Nat}{sc:Sc}{em:Em}{target:Expr}{ifs:List Expr}{loc:Loc}{src:Option Nat}{H:Hp}{f g:α→V}(hs:stands H H src):∀ {N:List α},(∀ p∈N,∃ loc',bindT sc H target (f p) loc=some loc'∧Ev pe m (.ifs sc loc' ifs H) (.b true H)∧Ev pe m (.inn sc em [] loc' H) (.l [g p] H))→Ev pe m (.cl sc em [] target ifs loc src H (N.map f) H) (.l (N.map g) H):=fun {N}=>by
 induction N with
 | nil=>exact fun ι => .cl_nil
 | cons p N ih=>exact fun h=>let ⟨_,h1,h2,h3⟩:=h p (.head _); .cl_cons h1 h2 h3 hs (ih fun q hq=>h q (.tail _ hq))
theorem tr_listT{H:Hp}{i:Nat}{xs:List V}(h:H.f i = .list xs)(hl:xs.length≤lim)(hne:xs≠[]):truth H (.ref i)=some true:=by
 show truthO (H.f i)=_
 rw[h]
 refine (if_pos hl).trans ?_
 cases xs with
 | nil=>exact absurd rfl hne
 | cons _ _=>rfl
theorem tr_listF{H:Hp}{i:Nat}(h:H.f i = .list []):truth H (.ref i)=some false:=by
 show truthO (H.f i)=_
 rw[h]; rfl
theorem tr_dictT{H:Hp}{i:Nat}{q:Str×V}{r:List (Str×V)}(h:H.f i = .dict (q::r))(hl:(q::r).length≤lim):truth H (.ref i)=some true:=by
 show truthO (H.f i)=_
 rw[h]
 exact if_pos hl
theorem tr_dictF{H:Hp}{i:Nat}(h:H.f i = .dict []):truth H (.ref i)=some false:=by
 show truthO (H.f i)=_
 rw[h]; rfl
theorem upd_upd{G:Nat→AObj}{i:Nat}{x y:AObj}:upd (upd G i x) i y=upd G i y:=funext fun j=>by
 by_cases h:j=i
 ·rw[h,upd_at,upd_at]
 ·rw[upd_ne h,upd_ne h,upd_ne h]
variable {b:Nat} {s:S3} {G:Nat→AObj} {n:Nat} {P:Params} {sa:Addr} {is:List Int}
noncomputable abbrev locS2(b:Nat)(t:Str)(a d q1 q2 pq al:Nat):Loc:=[("self",.ref (b+2)),("tag",.str t),("attrs",.ref a),("new_namespaces",.ref d),("qname_text",.none),("qnames",.ref q1),("resolved_names",.ref q2),("qattrs",.none),("parse_qname",.mt 90 (.ref (b+2))),("parsed_qnames",.ref pq),("attr_list",.ref al)]
theorem st_7{k:Nat}{t:Str}{a d q1 q2 pq:Nat}{D:List Str}(hn:b+11≤n)(hd':okId b d)(hG:G d = .list ((D.map cp).map pv))(hu:∀ u∈D,u∈u4)(hp:D.Pairwise fun a c=>ru a<ru c)(h4:D.length≤4):
  ∃ G',(∀ i,i<n→G' i=G i)∧G' n = .list ((D.map labP).map pv)∧∀ fl lc h,Ev (pe3 P sa is) (k+60) (.xs sc_st ((bodyAt (hd.heap_39 P) 126).drop 8) (locS2 b t a d q1 q2 pq n) (mk3 b s G' (n+1))) (.f fl lc h)→Ev (pe3 P sa is) (k+60) (.xs sc_st ((bodyAt (hd.heap_39 P) 126).drop 7) (locS1 b t a d q1 q2 pq) (mk3 b s G n)) (.f fl lc h):=by
 have hdl:(mk3 b s G n).f d = .list ((D.map cp).map pv):=(mk3_at hd').trans hG
 refine ⟨upd G n (.list ((D.map labP).map pv)),fun i hi=>upd_ne (by trivial),upd_at,fun fl lc h hz => ?_⟩
 by_cases hN0:D=[]
 ·subst hN0
  exact xs_cons (xv_If (tv_Gen rfl (ev_Name rfl) (tr_listF hdl)) (xs_cons (xv_Asg rfl (fun ι=>rfl) (ev_List evL_nil (leR rfl) (mk3_alloc hn)) (asgs_one rfl (asg_Name rfl))) xs_nil)) hz
 ·have ee:((D.map cp).map pv)=D.map fun u=>pv (cp u):=by rw[List.map_map]; rfl
  have hit:items (mk3 b s G n) (.ref d)=some (D.map fun u=>pv (cp u),some d):=by rw[← ee]; exact items_ref hdl
  have hle:(D.map fun u=>pv (labP u)).length≤lim:=by rw[List.length_map]; exact toLim (by trivial)
  have hme:(D.map fun u=>pv (labP u))=(D.map labP).map pv:=by rw[List.map_map]; rfl
  have hal:(mk3 b s G n).alloc (.list (D.map fun u=>pv (labP u)))=mk3 b s (upd G n (.list ((D.map labP).map pv))) (n+1):=by rw[hme]; exact mk3_alloc hn
  have hat2:(mk3 b s (upd G n (.list ((D.map labP).map pv))) (n+1)).f n = .list ((D.map labP).map pv):=(mk3_at (.inr hn)).trans upd_at
  have hput:(mk3 b s (upd G n (.list ((D.map labP).map pv))) (n+1)).put n (.list ((D.map labP).map pv))=mk3 b s (upd G n (.list ((D.map labP).map pv))) (n+1):=by
   rw[mk3_put (.inr hn),upd_upd]
  exact xs_cons (xv_If (tv_Gen rfl (ev_Name rfl) (tr_listT hdl (by rw[List.length_map,List.length_map]; exact toLim (by trivial)) fun q=>hN0 (List.map_eq_nil_iff.mp (List.map_eq_nil_iff.mp q))))
   (xs_cons (xv_AsgC rfl (ev_LC rfl rfl (ev_Name rfl) hit rfl (cl_map (g:=fun u=>pv (labP u)) stands_refl fun u hu'=>by
    have hpl:(pfxU u).length≤10:=by
     have:∀ u∈u4,(pfxU u).length≤10:=by decide+kernel
     exact this u (hu u hu')
    by_cases h:(pfxU u).length=0
    ·have e:labP u=(("xmlns":Str),u):=congrArg (fun x=>(x,u)) (if_pos h)
     rw[e]
     exact ⟨_,rfl,ifs_nil,in_el (ev_Tuple (evL_cons rfl (ev_If (tv_Gen rfl (ev_Name rfl) (tr_strF h)) (ev_Const rfl)) (evL_cons rfl (ev_Name rfl) evL_nil)) (leR rfl))⟩
    ·have e:labP u=("xmlns:"++pfxU u,u):=congrArg (fun x=>(x,u)) (if_neg h)
     rw[e]
     exact ⟨_,rfl,ifs_nil,in_el (ev_Tuple (evL_cons rfl (ev_If (tv_Gen rfl (ev_Name rfl) (tr_strT (toLim (Nat.le_trans hpl (by decide))) h)) (ev_Bin (ev_Const rfl) (ev_Name rfl) (.addS (toLim (by show 6+(pfxU u).length≤_; trivial))))) (evL_cons rfl (ev_Name rfl) evL_nil)) (leR rfl))⟩) hle hal) (asgs_one rfl (asg_Name rfl))) (xs_cons (xv_Expr rfl (ev_CallA rfl rfl (by decide) (ev_Name rfl) (attr_list hat2 rfl) rfl evL_nil evKw_nil (c_bm (pv_sort hat2 (sort_labs hu hp (by trivial)) hput)))) xs_nil))) hz
noncomputable def atN(p:Nm×Str):Str×Str:=(p.1.full,p.2)
noncomputable def qvP(p:Nm×Str):V:=pv (p.1.q,p.2)
theorem nk_full:∀ m∈k4,m.uri.length=0→m.tag=m.full:=fc (fun ι=>rfl) (fc (fun h=>absurd h (by decide)) (fc (fun h=>absurd h (by decide)) (fc (fun h=>absurd h (by decide+kernel)) fn)))
theorem nk_len:∀ m∈k4,m.uri.length≤1000:=fun m hm=>(kn_ok m (k4_kn m hm)).lu
theorem at_loop{k:Nat}{t:Str}{a d q1 q2 pq al w:Nat}{pkv:List (Str×V)}{H0:Hp}(hal:okId b al)(hpq:okId b pq)(hw:okId b w)(hne:pq≠al∧w≠al){l:List (Nm×Str)}:∀ {L:List (Str×Str)} {G:Nat→AObj},(∀ p∈l,p.1∈k4∧pkv.lookup p.1.q=some (tqV p.1))→G pq = .dict pkv→G al = .list (L.map pv)→H0.f w=G w→L.length+l.length≤100 →
  Ex2_3 (fun G' ex=>(∀ i,i≠al→G' i=G i)) (fun G' ex=>G' al = .list ((L++l.map atN).map pv)) (fun G' ex=>Ev (pe3 P sa is) (k+50) (.for sc_st (forT (ifB (bodyAt (hd.heap_39 P) 126)[8]?)[0]?) (forB (ifB (bodyAt (hd.heap_39 P) 126)[8]?)[0]?) (some w) H0 (l.map qvP) (locS2 b t a d q1 q2 pq al) (mk3 b s G n)) (.f .next (locS2 b t a d q1 q2 pq al++ex) (mk3 b s G' n))):=by
 induction l with
 | nil=>exact fun {L G} ι ι h ι ι=>⟨G,[],fun ι ι=>rfl,by rw[h]; exact congrArg (fun l:List (Str×Str)=>AObj.list (l.map pv)) (List.append_nil L).symm,for_nil⟩
 | cons p l ih =>
  intro L G hk hGp hGa hGw hl
  rw[List.length_cons] at hl
  obtain ⟨k1,k2⟩:=hk p (.head _)
  let G1:=upd G al (.list ((L++[atN p]).map pv))
  obtain ⟨G',ex,e1,e2,ev⟩:=ih (L:=L++[atN p]) (G:=G1) (fun q hq=>hk q (.tail _ hq)) ((upd_ne hne.1).trans hGp) upd_at (hGw.trans (upd_ne hne.2).symm) (by rw[List.length_append]; show L.length+1+_≤_; trivial)
  refine ⟨G',ex,fun i hi=>(e1 i hi).trans (upd_ne hi),by rw[e2,List.append_assoc]; rfl,?_⟩
  have hpf:(mk3 b s G n).f pq = .dict pkv:=(mk3_at hpq).trans hGp
  have hix:index (mk3 b s G n) (.ref pq) (.str p.1.q)=some (tqV p.1):=(idx_dict hpf).trans k2
  have haf:(mk3 b s G n).f al = .list (L.map pv):=(mk3_at hal).trans hGa
  have hput:(mk3 b s G n).put al (.list (L.map pv++[pv (atN p)]))=mk3 b s G1 n:=by
   rw[mk3_put hal]
   show _=mk3 b s (upd G al (.list ((L++[atN p]).map pv))) n
   rw[List.map_append]; rfl
  have hst:stands H0 (mk3 b s G1 n) (some w):=(mk3_at hw).trans ((upd_ne hne.2).trans hGw.symm)
  have hll:(L.map pv).length<lim:=by rw[List.length_map]; exact Nat.lt_of_le_of_lt (show L.length≤100 by trivial) (by decide)
  refine for_go (fl := .next) (H1:=mk3 b s G1 n) (loc2:=locS2 b t a d q1 q2 pq al++([("k",.str p.1.q),("v",.str p.2),("attr_qname",.str p.1.full),("attr_name",.str p.1.tag),("uri",.str p.1.uri)]:Loc)) ?_ rfl (for_forget lk_app ev) hst
  by_cases hu:p.1.uri.length=0
  ·have e:atN p=(p.1.tag,p.2):=congrArg (fun x=>(x,p.2)) (nk_full _ k1 hu).symm
   rw[e] at hput
   exact fb rfl (xs_cons (xv_If (tv_Bool (test_stop (tv_Cmp rfl (ev_Name rfl) (ev_Const rfl) (cmpR rfl)) rfl)) xs_nil) (xs_cons (xv_Asg rfl (fun ι=>rfl) (ev_Idx rfl (ev_Name rfl) (ev_Name rfl) hix) (asgs_one rfl (asg_Tup rfl rfl))) (xs_cons (xv_Expr rfl (ev_CallA rfl rfl (by decide) (ev_Name rfl) (attr_list haf rfl) rfl (evL_cons rfl (ev_Tuple (evL_cons rfl (ev_If (tv_Gen rfl (ev_Name rfl) (tr_strF hu)) (ev_Name rfl)) (evL_cons rfl (ev_Name rfl) evL_nil)) (leR rfl)) evL_nil) evKw_nil (c_bm (pv_append haf hll hput)))) xs_nil)))
  ·exact fb rfl (xs_cons (xv_If (tv_Bool (test_stop (tv_Cmp rfl (ev_Name rfl) (ev_Const rfl) (cmpR rfl)) rfl)) xs_nil) (xs_cons (xv_Asg rfl (fun ι=>rfl) (ev_Idx rfl (ev_Name rfl) (ev_Name rfl) hix) (asgs_one rfl (asg_Tup rfl rfl))) (xs_cons (xv_Expr rfl (ev_CallA rfl rfl (by decide) (ev_Name rfl) (attr_list haf rfl) rfl (evL_cons rfl (ev_Tuple (evL_cons rfl (ev_If (tv_Gen rfl (ev_Name rfl) (tr_strT (toLim (Nat.le_trans (nk_len _ k1) (by decide))) hu)) (ev_Name rfl)) (evL_cons rfl (ev_Name rfl) evL_nil)) (leR rfl)) evL_nil) evKw_nil (c_bm (pv_append haf hll hput)))) xs_nil)))
theorem st_8{k:Nat}{t:Str}{a d q1 q2 pq al:Nat}{pkv:List (Str×V)}{at':List (Nm×Str)}{L:List (Str×Str)}(h:AtOk at')(hn:b+11≤n)(ha:okId b a∧a<n)(hGa:G a = .dict (kvsOf at'))(hpq:okId b pq∧pq<n∧pq≠al)(hGp:G pq = .dict pkv)(hpk:∀ p∈at',pkv.lookup p.1.q=some (tqV p.1))(hal:okId b al∧al<n)(hGl:G al = .list (L.map pv))(hL:L.length≤10):
  Ex2_5 (fun G' n'=>n≤n') (fun G' n'=>n'≤n+1) (fun G' n'=>(∀ i,i<n→i≠al→G' i=G i)) (fun G' n'=>G' al = .list ((L++(sAt at').map atN).map pv)) (fun G' n'=>∀ fl lc h,Ev (pe3 P sa is) (k+60) (.xs sc_st ((bodyAt (hd.heap_39 P) 126).drop 9) (locS2 b t a d q1 q2 pq al) (mk3 b s G' n')) (.f fl lc h)→Ev (pe3 P sa is) (k+60) (.xs sc_st ((bodyAt (hd.heap_39 P) 126).drop 8) (locS2 b t a d q1 q2 pq al) (mk3 b s G n)) (.f fl lc h)):=by
 have haf:(mk3 b s G n).f a = .dict (kvsOf at'):=(mk3_at ha.1).trans hGa
 have h4:=h.len
 cases at' with
 | nil=>exact ⟨G,n,Nat.le_refl _,by trivial,fun ι ι ι=>rfl,by rw[hGl]; exact congrArg (fun l:List (Str×Str)=>AObj.list (l.map pv)) (List.append_nil L).symm,fun fl lc h hz=>xs_cons (xv_If (tv_Gen rfl (ev_Name rfl) (tr_dictF haf)) xs_nil) hz⟩
 | cons p0 l0 =>
  obtain ⟨m1,m2⟩:=sAt_mem (at':=p0::l0) (by trivial)
  let G1:=upd G n (.list ((sAt (p0::l0)).map qvP))
  have low:∀ i,i<n→G1 i=G i:=fun i hi=>upd_ne (by trivial)
  obtain ⟨G',ex,e1,e2,ev⟩:=at_loop (P:=P) (sa:=sa) (is:=is) (s:=s) (n:=n+1) (k:=k+8) (t:=t) (a:=a) (d:=d) (q1:=q1) (q2:=q2) (w:=n) (H0:=mk3 b s G1 (n+1)) hal.1 hpq.1 (.inr hn) ⟨hpq.2.2,by trivial⟩ (l:=sAt (p0::l0)) (L:=L) (G:=G1) (fun q hq=>⟨h.mem q (m1 q hq),hpk q (m1 q hq)⟩) ((low _ hpq.2.1).trans hGp) ((low _ hal.2).trans hGl) (mk3_at (.inr hn)) (by trivial)
  have hso:SortV ((kvsOf (p0::l0)).map fun p => .tup [.str p.1,p.2]) ((sAt (p0::l0)).map qvP):=by
   have:=sort_at (at':=p0::l0) (by trivial)
   unfold kvsOf
   rw[List.map_map]; exact this
  have hal1:(mk3 b s G n).alloc (.list ((sAt (p0::l0)).map qvP))=mk3 b s G1 (n+1):=mk3_alloc hn
  have hit:items (mk3 b s G1 (n+1)) (.ref n)=some ((sAt (p0::l0)).map qvP,some n):=items_ref ((mk3_at (.inr hn)).trans upd_at)
  refine ⟨G',n+1,by trivial,Nat.le_refl _,fun i hi hia=>(e1 i hia).trans (low i hi),e2,fun fl lc h hz => ?_⟩
  exact xs_cons (xv_If (tv_Gen rfl (ev_Name rfl) (tr_dictT haf (toLim (by show ((p0::l0).map fun p:Nm×Str=>(p.1.q,V.str p.2)).length≤_; rw[List.length_map]; trivial)))) (xs_cons (xv_For rfl (ev_CallN (lk_glob (by decide) rfl glob_sorted) rfl (evL_cons rfl (ev_CallA rfl rfl (by decide) (ev_Name rfl) (attr_dict haf rfl) rfl evL_nil evKw_nil (c_bm (pv_items haf))) evL_nil) evKw_nil (c_bf (fv_sorted haf hso hal1))) hit ev) xs_nil)) (xs_forget lk_app hz)
end
section
theorem atIdx_last{xs:List V}{v:V}(h:xs.getLast? = some v):atIdx xs (-1)=some v:=by
 have h0:xs≠[]:=fun q=>by rw[q] at h; exact noS (show none=some v from h)
 have h1:1≤xs.length:=List.length_pos_iff.mpr h0
 unfold atIdx
 rw[if_neg (by decide),if_neg (by decide),if_pos (by trivial),show ((xs.length:Int) + -1).toNat=xs.length-1 from Int.toNat_sub xs.length 1]
 rw[List.getLast?_eq_getElem?] at h; exact h
variable {b:Nat} {s:S3} {G:Nat→AObj} {n:Nat} {P:Params} {sa:Addr} {is:List Int}
noncomputable def atx(p:Str×Str):Str:=Str.empty++" "++p.1++"=\""++p.2++"\""
noncomputable def atE(p:Str×Str):Str:=atx (p.1,escA p.2)
noncomputable def spaceN:Str:="{http://www.w3.org/XML/1998/namespace}space"
theorem atxv{k:Nat}{sc:Sc}{loc:Loc}{H:Hp}{p1 p2 p3 p4 p5 p6:Pos}{a c:Expr}{x y:Str}(hx:x.length≤1000)(hy:y.length≤700000)(h1:Ev (pe3 P sa is) k (.e sc loc a H) (.v (.str x) H))(h2:Ev (pe3 P sa is) k (.e sc loc c H) (.v (.str y) H)):
  Ev (pe3 P sa is) (k+2) (.e sc loc (.JoinedStr [.Constant (.str " ") 0 p1,.FormattedValue a (-1) none p2,.Constant (.str "=\"") 0 p3,.FormattedValue c (-1) none p4,.Constant (.str "\"") 0 p5] p6) H) (.v (.str (atx (x,y))) H):=by
 have e1:(Str.empty++(" ":Str)).length=1:=rfl
 have e2:(Str.empty++(" ":Str)++x).length=1+x.length:=by rw[sLen]; rfl
 have e3:(Str.empty++(" ":Str)++x++("=\"":Str)).length=1+x.length+2:=by rw[sLen,e2]; rfl
 have e4:(Str.empty++(" ":Str)++x++("=\"":Str)++y).length=1+x.length+2+y.length:=by rw[sLen,e3]
 exact ev_Joined (joinC ⟨leR rfl,leR rfl⟩ (joinF h1 ⟨by rw[e1]; trivial,by trivial⟩ (joinC ⟨by rw[e2]; trivial,leR rfl⟩ (joinF h2 ⟨by rw[e3]; trivial,by trivial⟩ (joinC ⟨by rw[e4]; trivial,leR rfl⟩ join_nil)))))
theorem atE_len{p:Str×Str}(h:p.1.length≤1000∧p.2.length≤1000):(atE p).length≤601004:=by
 have h1:=escA_len (x:=p.2) (by trivial)
 show (Str.empty++" "++p.1++"=\""++escA p.2++"\"").length≤_
 rw[sLen,sLen,sLen,sLen]
 show 1+p.1.length+2+(escA p.2).length+1≤_
 trivial
noncomputable def stO(m:Nm)(L:List (Str×Str)):List Str:=("<"++m.full)::((if L=[] then [] else [cat (L.map atE)])++[(">":Str)])
noncomputable def stS(s:S3)(m:Nm)(L:List (Str×Str))(w:Nat):S3:={ s with out:=s.out++(stO m L).map .str,pres:=s.pres++[.bool false],seen:=true,ns:=s.ns++[.ref w] }
structure LOk (L:List (Str×Str)):Prop where
 len:L.length≤8
 sz:∀ p∈L,p.1.length≤1000∧p.2.length≤1000
theorem cat_len{l:List Str}{c:Nat}(h:∀ x∈l,x.length≤c):(cat l).length≤l.length*c:=by
 induction l with
 | nil=>exact Nat.zero_le _
 | cons x l ih =>
  show (x++cat l).length≤(l.length+1)*c
  rw[sLen,Nat.add_mul,Nat.one_mul,Nat.add_comm]
  exact Nat.add_le_add (ih fun y hy=>h y (.tail _ hy)) (h x (.head _))
theorem LOk.join{L:List (Str×Str)}(h:LOk L):(cat (L.map atE)).length≤10000000:=by
 have:=cat_len (l:=L.map atE) (c:=601004) fun x hx=>by obtain ⟨p,hp,rfl⟩:=List.mem_map.mp hx; exact atE_len (h.sz p hp)
 rw[List.length_map] at this
 have h8:=h.len
 exact Nat.le_trans this (Nat.le_trans (Nat.mul_le_mul_right _ h8) (by decide))
noncomputable abbrev locS3(b:Nat)(t:Str)(a d q1 q2 pq al:Nat):Loc:=locS2 b t a d q1 q2 pq al++([("space_behaviour",.none),("write",.bm .lAppend (.ref b))]:Loc)
structure SOk (s:S3):Prop where
 hpr:s.pres.getLast? = some (.bool false)
 hpl:s.pres.length≤1000
 hnl:s.ns.length≤1000
 hol:s.out.length≤100000
theorem st_fin{k:Nat}{m:Nm}{a d q1 q2 pq al:Nat}{kvs pkv:List (Str×V)}{L:List (Str×Str)}(hn:b+11≤n)(ha:okId b a)(hGa:G a = .dict kvs)(hsp:kvs.lookup spaceN=none)(hpq:okId b pq)(hGp:G pq = .dict pkv)(hpk:pkv.lookup m.q=some (tqV m))(hml:m.full.length≤1000)(hal:okId b al)(hGl:G al = .list (L.map pv))(hL:LOk L)(S:SOk s):
  Ex3_6 (fun G' n' w=>n≤w) (fun G' n' w=>w<n') (fun G' n' w=>n'≤n+2) (fun G' n' w=>(∀ i,i<n→G' i=G i)) (fun G' n' w=>G' w = .list []) (fun G' n' w=>Ev (pe3 P sa is) (k+60) (.xs sc_st ((bodyAt (hd.heap_39 P) 126).drop 9) (locS2 b m.q a d q1 q2 pq al) (mk3 b s G n)) (.f .next (locS3 b m.q a d q1 q2 pq al) (mk3 b (stS s m L w) G' n'))):=by
 have hlt:∀ {x:Nat},x≤200000→x<lim:=fun h=>Nat.lt_of_le_of_lt h (by decide)
 have haf:(mk3 b s G n).f a = .dict kvs:=(mk3_at ha).trans hGa
 have hget:Prm (mk3 b s G n) .dGet (.ref a) [.str spaceN] .none (mk3 b s G n):=by
  have:=pv_get (k:=spaceN) haf
  rwa [hsp] at this
 have hix:index (mk3 b s G n) (.ref (b+10)) (.int (-1))=some (.bool false):=by
  show idxO ((mk3 b s G n).f (b+10)) _=_
  rw[f10]; exact atIdx_last S.hpr
 let s1:S3:={ s with pres:=s.pres++[.bool false] }
 have hpf:(mk3 b s1 G n).f pq = .dict pkv:=(mk3_at hpq).trans hGp
 have hidx:index (mk3 b s1 G n) (.ref pq) (.str m.q)=some (tqV m):=(idx_dict hpf).trans hpk
 let s2:S3:={ s1 with out:=s.out++[.str ("<"++m.full)] }
 have o1:=S.hol
 have o2:s2.out.length≤100001:=by show (s.out++[_]).length≤_; rw[List.length_append]; exact Nat.succ_le_succ o1
 have haf2:∀ {s':S3} {G':Nat→AObj} {n'},G' al=G al→(mk3 b s' G' n').f al = .list (L.map pv):=fun e=>(mk3_at hal).trans (e.trans hGl)
 by_cases hL0:L=[]
 ·subst hL0
  let s4:S3:={ s2 with out:=s2.out++[.str ">"] }
  let s5:S3:={ s4 with seen:=true }
  have hal5:(mk3 b s5 G n).alloc (.list [])=mk3 b s5 (upd G n (.list [])) (n+1):=mk3_alloc hn
  have es:({ s5 with ns:=s5.ns++[.ref n] }:S3)=stS s m [] n:=by
   show S3.mk ((s.out++[_])++[_]) _ _ _ _ _ _ _=S3.mk _ _ _ _ _ _ _ _
   rw[List.append_assoc]; rfl
  refine ⟨upd G n (.list []),n+1,n,Nat.le_refl _,Nat.lt_succ_self _,by trivial,fun i hi=>upd_ne (by trivial),upd_at,?_⟩
  rw[← es]
  exact (xs_cons (xv_Asg rfl (fun ι=>rfl) (ev_CallA rfl rfl (by decide) (ev_Name rfl) (attr_dict haf rfl) rfl (evL_cons rfl (ev_Const rfl) evL_nil) evKw_nil (c_bm hget)) (asgs_one rfl (asg_Name rfl))) (xs_cons (xv_Expr rfl (ev_CallA rfl rfl (by decide) (ev_Attr rfl (ev_Name rfl) (fs rfl rfl) rfl) (attr_list f10 rfl) rfl (evL_cons rfl (ev_If (tv_Gen rfl (ev_Name rfl) rfl) (ev_Idx rfl (ev_Attr rfl (ev_Name rfl) (fs rfl rfl) rfl) (ev_Neg (ev_Const rfl)) hix)) evL_nil) evKw_nil (c_bm (pv_append f10 (hlt (by have:=S.hpl; trivial)) p10)))) (xs_cons (xv_Asg rfl (fun ι=>rfl) (ev_Attr rfl (ev_Name rfl) (fs rfl rfl) rfl) (asgs_one rfl (asg_Name rfl))) (xs_cons (xv_Expr rfl (ev_CallN rfl rfl (evL_cons rfl (ev_Bin (ev_Const rfl) (ev_Idx rfl (ev_Idx rfl (ev_Name rfl) (ev_Name rfl) hidx) (ev_Const rfl) rfl) (.addS (toLim (by show 1+m.full.length≤_; trivial)))) evL_nil) evKw_nil (c_bm (pv_append f0 (hlt (by show s.out.length≤_; trivial)) p0))))
  (xs_cons (xv_If (tv_Gen rfl (ev_Name rfl) (tr_listF (haf2 rfl))) xs_nil)
  (xs_cons (xv_Expr rfl (ev_CallN rfl rfl (evL_cons rfl (ev_Const rfl) evL_nil) evKw_nil (c_bm (pv_append f0 (hlt (by trivial)) p0)))) (xs_cons (xv_If (tv_Cmp rfl (ev_Name rfl) (ev_Const rfl) (cmpR rfl)) xs_nil) (xs_cons (xv_Asg rfl (fun ι=>rfl) (ev_Const rfl) (asgs_one rfl (asg_Attr (ev_Name rfl) (ins rfl) pSeen))) (xs_cons (xv_Expr rfl (ev_CallA rfl rfl (by decide) (ev_Attr rfl (ev_Name rfl) (fs rfl rfl) rfl) (attr_list f6 rfl) rfl (evL_cons rfl (ev_List evL_nil (leR rfl) hal5) evL_nil) evKw_nil (c_bm (pv_append f6 (hlt (by have:=S.hnl; show s.ns.length≤_; trivial)) p6)))) xs_nil)))))))))
 ·let s3:S3:={ s2 with out:=s2.out++[.str (cat (L.map atE))] }
  let s4:S3:={ s3 with out:=s3.out++[.str ">"] }
  let s5:S3:={ s4 with seen:=true }
  have o3:s3.out.length≤100002:=by show (s2.out++[_]).length≤_; rw[List.length_append]; exact Nat.succ_le_succ o2
  let G1:=upd G n (.list (L.map fun p=>V.str (atE p)))
  have h8:=hL.len
  have hle:(L.map fun p=>V.str (atE p)).length≤lim:=by rw[List.length_map]; exact toLim (by trivial)
  have hal1:(mk3 b s2 G n).alloc (.list (L.map fun p=>V.str (atE p)))=mk3 b s2 G1 (n+1):=mk3_alloc hn
  have hjn:Prm (mk3 b s2 G1 (n+1)) .tJoin (.str "") [.ref n] (.str (cat (L.map atE))) (mk3 b s2 G1 (n+1)):=by
   have:=pv_join (H:=mk3 b s2 G1 (n+1)) (i:=n) (x:=Str.empty) (xs:=L.map fun p=>V.str (atE p)) (l:=L.map atE) ((mk3_at (.inr hn)).trans upd_at) (by
    rw[show (L.map fun p=>V.str (atE p))=(L.map atE).map .str by rw[List.map_map]; rfl]
    exact strsOf_map _) (joinOk hL.join)
   rw[tjoin_cat] at this; exact this
  have hal5:(mk3 b s5 G1 (n+1)).alloc (.list [])=mk3 b s5 (upd G1 (n+1) (.list [])) (n+2):=mk3_alloc (by trivial)
  have es:({ s5 with ns:=s5.ns++[.ref (n+1)] }:S3)=stS s m L (n+1):=by
   show S3.mk (((s.out++[_])++[_])++[_]) _ _ _ _ _ _ _=S3.mk (_++(V.str _::((if L=[] then [] else [cat (L.map atE)])++[(">":Str)]).map V.str)) _ _ _ _ _ _ _
   rw[if_neg hL0,List.append_assoc,List.append_assoc]; rfl
  refine ⟨upd G1 (n+1) (.list []),n+2,n+1,Nat.le_succ _,Nat.lt_succ_self _,Nat.le_refl _,fun i hi=>(upd_ne (by trivial)).trans (upd_ne (by trivial)),upd_at,?_⟩
  rw[← es]
  exact (xs_cons (xv_Asg rfl (fun ι=>rfl) (ev_CallA rfl rfl (by decide) (ev_Name rfl) (attr_dict haf rfl) rfl (evL_cons rfl (ev_Const rfl) evL_nil) evKw_nil (c_bm hget)) (asgs_one rfl (asg_Name rfl))) (xs_cons (xv_Expr rfl (ev_CallA rfl rfl (by decide) (ev_Attr rfl (ev_Name rfl) (fs rfl rfl) rfl) (attr_list f10 rfl) rfl (evL_cons rfl (ev_If (tv_Gen rfl (ev_Name rfl) rfl) (ev_Idx rfl (ev_Attr rfl (ev_Name rfl) (fs rfl rfl) rfl) (ev_Neg (ev_Const rfl)) hix)) evL_nil) evKw_nil (c_bm (pv_append f10 (hlt (by have:=S.hpl; trivial)) p10)))) (xs_cons (xv_Asg rfl (fun ι=>rfl) (ev_Attr rfl (ev_Name rfl) (fs rfl rfl) rfl) (asgs_one rfl (asg_Name rfl))) (xs_cons (xv_Expr rfl (ev_CallN rfl rfl (evL_cons rfl (ev_Bin (ev_Const rfl) (ev_Idx rfl (ev_Idx rfl (ev_Name rfl) (ev_Name rfl) hidx) (ev_Const rfl) rfl) (.addS (toLim (by show 1+m.full.length≤_; trivial)))) evL_nil) evKw_nil (c_bm (pv_append f0 (hlt (by show s.out.length≤_; trivial)) p0))))
  (xs_cons (xv_If (tv_Gen rfl (ev_Name rfl) (tr_listT (haf2 rfl) (by rw[List.length_map]; exact toLim (by trivial)) fun q=>hL0 (List.map_eq_nil_iff.mp q)))
    (xs_cons (xv_Expr rfl (ev_CallN rfl rfl (evL_cons rfl (ev_CallA rfl rfl (by decide) (ev_Const rfl) rfl rfl (evL_cons rfl (ev_Comp (ev_LC rfl rfl (ev_Name rfl) (items_ref (haf2 rfl)) rfl (cl_map (f:=pv) (g:=fun p=>V.str (atE p)) stands_refl fun p hp=>by
     obtain ⟨h1,h2⟩:=hL.sz p hp
     exact ⟨_,rfl,ifs_nil,in_el (atxv h1 (Nat.le_trans (escA_len (by trivial)) (by decide)) (ev_Name rfl) (ev_CallN (lk_glob (by decide) rfl glob_eat) (ca_fn (fn_eat P sa is)) (evL_cons rfl (ev_Name rfl) evL_nil) evKw_nil (t_eat (k:=k+40) (by trivial))))⟩) hle hal1)) evL_nil) evKw_nil (c_bm hjn)) evL_nil) evKw_nil (c_bm (pv_append f0 (hlt (by trivial)) p0)))) xs_nil))
  (xs_cons (xv_Expr rfl (ev_CallN rfl rfl (evL_cons rfl (ev_Const rfl) evL_nil) evKw_nil (c_bm (pv_append f0 (hlt (by trivial)) p0)))) (xs_cons (xv_If (tv_Cmp rfl (ev_Name rfl) (ev_Const rfl) (cmpR rfl)) xs_nil) (xs_cons (xv_Asg rfl (fun ι=>rfl) (ev_Const rfl) (asgs_one rfl (asg_Attr (ev_Name rfl) (ins rfl) pSeen))) (xs_cons (xv_Expr rfl (ev_CallA rfl rfl (by decide) (ev_Attr rfl (ev_Name rfl) (fs rfl rfl) rfl) (attr_list f6 rfl) rfl (evL_cons rfl (ev_List evL_nil (leR rfl) hal5) evL_nil) evKw_nil (c_bm (pv_append f6 (hlt (by have:=S.hnl; show s.ns.length≤_; trivial)) p6)))) xs_nil)))))))))
end
section
variable {b:Nat} {s:S3} {G:Nat→AObj} {n:Nat} {P:Params} {sa:Addr} {is:List Int}
noncomputable def atL(us:List Str)(tag:Nm)(at':List (Nm×Str)):List (Str×Str):=(newU us tag at').map labP++(sAt at').map atN
theorem lab_len:∀ u∈u4,(lab u).length≤1000∧u.length≤1000:=by decide+kernel
theorem full_len:∀ m∈kn,m.full.length≤1000:=fun m hm=>(kn_ok m hm).lf
theorem atL_ok{us:List Str}{tag:Nm}{at':List (Nm×Str)}(h:AtOk at'):LOk (atL us tag at'):=by
 have h4:=h.len
 obtain ⟨m1,m2⟩:=sAt_mem (at':=at') (by trivial)
 refine ⟨?_,fun p hp => ?_⟩
 ·unfold atL
  rw[List.length_append,List.length_map,List.length_map]
  have:=newU_len (us:=us) (tag:=tag) (at':=at')
  trivial
 ·rcases List.mem_append.mp hp with hp | hp
  ·obtain ⟨u,hu,rfl⟩:=List.mem_map.mp hp
   exact lab_len u ((newU_ok.2 u).mp hu).1
  ·obtain ⟨q,hq,rfl⟩:=List.mem_map.mp hp
   exact ⟨full_len _ (k4_kn _ (h.mem q (m1 q hq))),h.val q (m1 q hq)⟩
theorem lk_map{ms:List Nm}{f:Nm→V}(hn:(ms.map (·.q)).Nodup){m:Nm}(hm:m∈ms):(ms.map fun m=>(m.q,f m)).lookup m.q=some (f m):=by
 induction ms with
 | nil=>exact nomatch hm
 | cons x ms ih =>
  obtain ⟨h1,h2⟩:=List.nodup_cons.mp hn
  show List.lookup m.q ((x.q,f x)::ms.map fun m=>(m.q,f m))=_
  rw[List.lookup_cons]
  rcases List.mem_cons.mp hm with rfl | hm
  ·rw[beq_self_eq_true]
  ·rw[beq_false_of_ne fun (e:m.q=x.q)=>h1 (by show x.q∈_; rw[← e]; exact List.mem_map_of_mem (f:=(·.q)) hm)]; exact ih h2 hm
theorem ms_tag{tag:Nm}(ht:tag∈kn){at':List (Nm×Str)}:tag∈msOf tag at':=List.mem_filter.mpr ⟨ht,List.contains_iff_mem.mpr (.head _)⟩
theorem ms_at{tag:Nm}{at':List (Nm×Str)}{p:Nm×Str}(hp:p∈at')(hk:p.1∈kn):p.1∈msOf tag at':=List.mem_filter.mpr ⟨hk,List.contains_iff_mem.mpr (.tail _ (List.mem_map_of_mem (f:=fun p:Nm×Str=>p.1.q) hp))⟩
theorem sp_none{at':List (Nm×Str)}(h:∀ p∈at',p.1∈k4):(kvsOf at').lookup spaceN=none:=by
 induction at' with
 | nil=>rfl
 | cons p l ih =>
  have:∀ m∈k4,(spaceN==m.q)=false:=by
   have:(k4.map (·.q)).all (fun q => !(spaceN==q))=true:=by decide+kernel
   exact fun m hm=>(Bool.not_eq_true' _).mp (List.all_eq_true.mp this _ (List.mem_map_of_mem (f:=(·.q)) hm))
  show List.lookup spaceN ((p.1.q,.str p.2)::kvsOf l)=_
  rw[List.lookup_cons,this p.1 (h p (.head _))]
  exact ih fun q hq=>h q (.tail _ hq)
theorem t_st{k:Nat}{tag:Nm}(ht:tag∈t4){at':List (Nm×Str)}(h:AtOk at'){ls:List (Nat×List Str)}{a d:Nat}{ns:List Nat}(S:St3 b s G n (ls++[(d,[])]) ns)(hf:(ls.flatMap (·.2)).length≤80)(hns:ns.length≤90)(ha:b+11≤a∧a<n∧a≠d)(hGa:G a = .dict (kvsOf at'))(h0:0<b)(hG0:G 0 = .tab 123 lamName)(K:SOk s):
  Ex3_5 (fun G' n' w=>n≤n') (fun G' n' w=>n'≤n+30) (fun G' n' w=>(∀ i,i<n→i≠d→G' i=G i)) (fun G' n' w=>St3 b (stS s tag (atL (usOf ls) tag at') w) G' n' (ls++[(d,newU (usOf ls) tag at')]) (ns++[w])) (fun G' n' w=>Ev (pe3 P sa is) (k+61) (.c (.mt 126 (.ref (b+2))) [.str tag.q,.ref a,.ref d] [] (mk3 b s G n)) (.v .none (mk3 b (stS s tag (atL (usOf ls) tag at') w) G' n'))):=by
 have hkn:=t4_kn _ ht
 have hd':=S.lv (d,[]) (List.mem_append_right _ (.head _))
 have hd1:b+11≤d:=hd'.1
 have hd2:d<n:=hd'.2.1
 obtain ⟨G1,n1,q1,q2,pq,h1,h2,h3,h4,h5,S1,h7⟩:=st_1 (P:=P) (sa:=sa) (is:=is) (k:=k) ht h S hf ha hGa h0 hG0
 have hG1d:=(S1.lv (d,newU (usOf ls) tag at') (List.mem_append_right _ (.head _))).2.2.1
 obtain ⟨ok1,ok2⟩:=newU_ok (us:=usOf ls) (tag:=tag) (at':=at')
 obtain ⟨G2,e1,e2,e3⟩:=st_7 (P:=P) (sa:=sa) (is:=is) (s:=s) (k:=k) (t:=tag.q) (a:=a) (q1:=q1) (q2:=q2) (pq:=pq) (n:=n1) S1.hn (.inr hd1) hG1d (fun u hu=>((ok2 u).mp hu).1) ok1 newU_len
 have ga2:G2 a = .dict (kvsOf at'):=(e1 a (by trivial)).trans ((h4 a ha.2.1 ha.2.2).trans hGa)
 have gp2:G2 pq = .dict ((msOf tag at').map fun m=>(m.q,tqV m)):=(e1 pq h2).trans h5
 have hn1:=S1.hn
 obtain ⟨G3,n3,j1,j2,j3,j4,j5⟩:=st_8 (P:=P) (sa:=sa) (is:=is) (s:=s) (k:=k) (t:=tag.q) (a:=a) (d:=d) (q1:=q1) (q2:=q2) (pq:=pq) (al:=n1) (n:=n1+1) (G:=G2) h (by trivial) ⟨.inr ha.1,by trivial⟩ ga2 ⟨.inr (by trivial),by trivial,by trivial⟩ gp2 (fun p hp=>lk_map ms_nd (ms_at hp (k4_kn _ (h.mem p hp)))) ⟨.inr hn1,by trivial⟩ e2 (by rw[List.length_map]; exact Nat.le_trans newU_len (by decide))
 obtain ⟨G4,n4,w,l1,l2,l3,l4,l5,l6⟩:=st_fin (P:=P) (sa:=sa) (is:=is) (s:=s) (G:=G3) (n:=n3) (k:=k) (m:=tag) (a:=a) (d:=d) (q1:=q1) (q2:=q2) (pq:=pq) (al:=n1) (kvs:=kvsOf at') (pkv:=(msOf tag at').map fun m=>(m.q,tqV m)) (L:=atL (usOf ls) tag at') (by trivial) (.inr ha.1) ((j3 a (by trivial) (by trivial)).trans ga2) (sp_none h.mem) (.inr (by trivial)) ((j3 pq (by trivial) (by trivial)).trans gp2) (lk_map ms_nd (ms_tag hkn)) (full_len _ hkn) (.inr hn1) j4 (atL_ok h) K
 have low:∀ i,i<n1→G4 i=G1 i:=fun i hi=>(l4 i (by trivial)).trans ((j3 i (by trivial) (by trivial)).trans (e1 i hi))
 refine ⟨G4,n4,w,by trivial,by trivial,fun i hi hid=>(low i (by trivial)).trans (h4 i hi hid),?_,?_⟩
 ·have S4:=S1.up (n':=n4) (by trivial) low
  refine ⟨S4.hn,S4.decl,S4.lv,S4.nd,by show s.ns++[_]=_; rw[S.nsS,List.map_append]; rfl,fun e he => ?_,?_,S4.told,fun e he l hl => ?_,S4.few.1,by rw[List.length_append]; exact Nat.succ_le_succ (Nat.le_trans hns (by decide))⟩
  ·rcases List.mem_append.mp he with he | he
   ·exact S4.nsl e he
   ·rw[List.mem_singleton.mp he]; exact ⟨by trivial,l2,l5⟩
  ·exact List.nodup_append.mpr ⟨S1.nsn,List.nodup_cons.mpr ⟨List.not_mem_nil,.nil⟩,fun x hx y hy q=>by
    rw[List.mem_singleton.mp hy] at q
    have:=(S1.nsl x hx).2.1
    trivial⟩
  ·rcases List.mem_append.mp he with he | he
   ·exact S4.apart e he l hl
   ·rw[List.mem_singleton.mp he]
    have:=(S1.lv l hl).2.1
    trivial
 ·exact c_mt (run_fn (fn_start' P sa is) .start2 body_st nm_st (h7 _ _ _ (e3 _ _ _ (j5 _ _ _ l6))) rfl)
end
section
variable {b:Nat} {s:S3} {G G0:Nat→AObj} {n:Nat} {P:Params} {sa:Addr} {is:List Int}
structure TS where
 out:List Str
 dat:List Str
 lv:List (List Str)
 seen:Bool
noncomputable def us(lv:List (List Str)):List Str:=lv.reverse.flatten++[xmlU]
noncomputable def flL(l:List Str):List Str:=if (cat l).length=0 then [] else [escC (cat l)]
noncomputable def enO(m:Nm):Str:=Str.empty++"</"++m.full++">"
noncomputable def TS.start(T:TS)(tag:Nm)(at':List (Nm×Str)):TS:=⟨T.out++flL T.dat++stO tag (atL (us T.lv) tag at'),[],T.lv++[newU (us T.lv) tag at'],true⟩
noncomputable def TS.fin(T:TS)(tag:Nm):TS:=⟨T.out++flL T.dat++[enO tag],[],T.lv.dropLast,T.seen⟩
noncomputable def TS.text(T:TS)(x:Str):TS:=⟨T.out,T.dat++[x],T.lv,T.seen⟩
structure TR (b:Nat) (T:TS) (G0:Nat→AObj) (s:S3) (G:Nat→AObj) (n:Nat) (ls:List (Nat×List Str)) (ns:List Nat):Prop where
 st:St3 b s G n ls ns
 out:s.out=T.out.map .str
 dat:s.dat=T.dat.map .str
 pres:s.pres=List.replicate (T.lv.length+1) (.bool false)
 lv:ls.map (·.2)=T.lv
 nsl:ns.length=T.lv.length
 seen:s.seen=T.seen
 low:∀ i,i<b→G i=G0 i
structure TB (T:TS):Prop where
 lv:T.lv.length≤80
 us:T.lv.flatten.length≤80
 out:T.out.length≤90000
 dat:T.dat.length≤1000
 cat:(cat T.dat).length≤100000
 seen:T.dat=[]∨T.seen=true
theorem fm_lv{ls:List (Nat×List Str)}{lv:List (List Str)}(h:ls.map (·.2)=lv):ls.flatMap (·.2)=lv.flatten:=by
 rw[List.flatMap_def,h]
theorem us_lv{ls:List (Nat×List Str)}{lv:List (List Str)}(h:ls.map (·.2)=lv):usOf ls=us lv:=by
 unfold usOf us
 rw[List.flatMap_def,List.map_reverse,h]
theorem rep_last{m:Nat}:(List.replicate (m+1) (V.bool false)).getLast? = some (.bool false):=by
 rw[List.replicate_succ',List.getLast?_concat]
noncomputable def flT(s:S3)(l:List Str):S3:={ s with dat:=[],out:=s.out++(flL l).map .str }
theorem flO_eq(l:List Str):flO (cat l)=(flL l).map .str:=by
 unfold flO flL
 by_cases h:(cat l).length=0
 ·rw[if_pos h,if_pos h]; rfl
 ·rw[if_neg h,if_neg h]; rfl
theorem flT_nil(h:s.dat=[]):flT s []=s:=by
 have e:s.out++(flL []).map .str=s.out:=List.append_nil _
 unfold flT
 rw[e]
 show S3.mk s.out [] s.seen s.done s.decl s.ns s.told s.pres=s
 rw[← h]
theorem flL_len(l:List Str):(flL l).length≤1:=by
 unfold flL
 by_cases h:(cat l).length=0
 ·rw[if_pos h]; exact Nat.zero_le _
 ·rw[if_neg h]; exact Nat.le_refl _
theorem St3.flush{ls ns}{l:List Str}(S:St3 b s G n ls ns):St3 b (flT s l) G n ls ns:=⟨S.hn,S.decl,S.lv,S.nd,S.nsS,S.nsl,S.nsn,S.told,S.apart,S.few⟩
noncomputable def sc_start:Sc:=[("self",.local),("tag",.local),("attrs",.local),("new_namespaces",.local)]
theorem nm_start:(fdAt (hd.heap_39 P) 120).scope.names=sc_start:=by kernel_rfl
theorem body_start:(fdAt (hd.heap_39 P) 120).body = .stmts (bodyAt (hd.heap_39 P) 120):=by kernel_rfl
theorem t_start{k:Nat}{T:TS}{tag:Nm}(ht:tag∈t4){at':List (Nm×Str)}(h:AtOk at'){ls:List (Nat×List Str)}{ns:List Nat}{a:Nat}(R:TR b T G0 s G n ls ns)(B:TB T)(ha:b+11≤a∧a<n)(hGa:G a = .dict (kvsOf at'))(h0:0<b)(hG0:G0 0 = .tab 123 lamName):
  Ex5_3 (fun s' G' n' ls' ns'=>n≤n') (fun s' G' n' ls' ns'=>TR b (T.start tag at') G0 s' G' n' ls' ns') (fun s' G' n' ls' ns'=>Ev (pe3 P sa is) (k+64) (.c (.mt 120 (.ref (b+2))) [.str tag.q,.ref a] [] (mk3 b s G n)) (.v .none (mk3 b s' G' n'))):=by
 have S:=R.st
 have hn:=S.hn
 let s1:=flT s T.dat
 let s2:S3:={ s1 with decl:=s1.decl++[.ref n] }
 let G1:=upd G n (.list [])
 have low:∀ i,i<n→G1 i=G i:=fun i hi=>upd_ne (by trivial)
 have S1:St3 b s2 G1 (n+1) (ls++[(n,[])]) ns:=by
  have q:=(S.flush (l:=T.dat)).up (G':=G1) (n':=n+1) (by trivial) low
  refine ⟨q.hn,by show s.decl++[_]=_; rw[S.decl,List.map_append]; rfl,fun l hl => ?_,?_,q.nsS,q.nsl,q.nsn,q.told,fun e he l hl => ?_,?_⟩
  ·rcases List.mem_append.mp hl with hl | hl
   ·exact q.lv l hl
   ·rw[List.mem_singleton.mp hl]; exact ⟨hn,Nat.lt_succ_self _,upd_at,fun ι h=>nomatch h⟩
  ·rw[List.map_append]
   refine List.nodup_append.mpr ⟨S.nd,List.nodup_cons.mpr ⟨List.not_mem_nil,.nil⟩,fun x hx y hy e => ?_⟩
   obtain ⟨l,hl,rfl⟩:=List.mem_map.mp hx
   rw[List.mem_singleton.mp hy] at e
   have:=(S.lv l hl).2.1
   trivial
  ·rcases List.mem_append.mp hl with hl | hl
   ·exact q.apart e he l hl
   ·rw[List.mem_singleton.mp hl]
    have:=(S.nsl e he).2.1
    dsimp only
    trivial
  ·refine ⟨?_,S.few.2⟩
   rw[flen]; exact S.few.1
 have hlv:=R.lv
 have hls:ls.length=T.lv.length:=by rw[← hlv,List.length_map]
 have hu:(ls.flatMap (·.2)).length≤80:=by rw[fm_lv hlv]; exact B.us
 have hdl:(flT s T.dat).decl.length<lim:=by
  show s.decl.length<_
  rw[S.decl]
  show (ls.map _).length+1<_
  rw[List.length_map,hls]
  have:=B.lv
  exact ltLim (by trivial)
 have hns:ns.length≤90:=by rw[R.nsl]; have:=B.lv; trivial
 have ho:=B.out
 have hfl:=flL_len T.dat
 have K:SOk s2:=by
  have e1:s2.pres=List.replicate (T.lv.length+1) (.bool false):=R.pres
  have:=B.lv
  refine ⟨by rw[e1]; exact rep_last,by rw[e1,List.length_replicate]; trivial,?_,?_⟩
  ·show s.ns.length≤_
   rw[S.nsS]
   show (ns.map V.ref).length+1+1≤_
   rw[List.length_map]; trivial
  ·show (s.out++_).length≤_
   rw[R.out,List.length_append,List.length_map,List.length_map]; trivial
 obtain ⟨G',n',w,g1,g2,g3,g4,g5⟩:=t_st (P:=P) (sa:=sa) (is:=is) (k:=k) ht h S1 hu hns ⟨ha.1,by trivial,by trivial⟩ ((low a ha.2).trans hGa) h0 ((low 0 (by trivial)).trans ((R.low 0 h0).trans hG0)) K
 have hal:(mk3 b s1 G n).alloc (.list [])=mk3 b s1 G1 (n+1):=mk3_alloc hn
 refine ⟨stS s2 tag (atL (usOf ls) tag at') w,G',n',ls++[(n,newU (usOf ls) tag at')],ns++[w],by trivial,?_,?_⟩
 ·have eu:=us_lv hlv
  refine ⟨g4,?_,rfl,?_,?_,?_,rfl,fun i hi=>(g3 i (by trivial) (by trivial)).trans ((low i (by trivial)).trans (R.low i hi))⟩
  ·show (s.out++(flL T.dat).map V.str)++(stO tag (atL (usOf ls) tag at')).map V.str=(T.out++flL T.dat++stO tag (atL (us T.lv) tag at')).map V.str
   rw[R.out,eu,List.map_append,List.map_append]
  ·show s.pres++[_]=List.replicate ((T.lv++[newU (us T.lv) tag at']).length+1) _
   rw[R.pres,List.length_append,← List.replicate_succ']; rfl
  ·show List.map (fun l:Nat×List Str=>l.2) (ls++[(n,newU (usOf ls) tag at')])=T.lv++[newU (us T.lv) tag at']
   rw[List.map_append,hlv,eu]; rfl
  ·show (ns++[_]).length=(T.lv++[_]).length
   rw[List.length_append,List.length_append,R.nsl]; rfl
 ·have tail:Ev (pe3 P sa is) (k+63) (.xs sc_start ((bodyAt (hd.heap_39 P) 120).drop 2) [("self",.ref (b+2)),("tag",.str tag.q),("attrs",.ref a)] (mk3 b s1 G n)) (.f .next [("self",.ref (b+2)),("tag",.str tag.q),("attrs",.ref a),("new_namespaces",.ref n)] (mk3 b (stS s2 tag (atL (usOf ls) tag at') w) G' n')) :=
   xs_cons (xv_Asg rfl (fun ι=>rfl) (ev_List evL_nil (leR rfl) hal) (asgs_one rfl (asg_Name rfl))) (xs_cons (xv_Expr rfl (ev_CallA rfl rfl (by decide) (ev_Attr rfl (ev_Name rfl) (fs rfl rfl) rfl) (attr_list f5 rfl) rfl (evL_cons rfl (ev_Name rfl) evL_nil) evKw_nil (c_bm (pv_append f5 hdl p5)))) (xs_cons (xv_If (tv_Bool (test_stop (tv_Cmp rfl (ev_Attr rfl (ev_Name rfl) (fs rfl rfl) rfl) (ev_Const rfl) (cmpR rfl)) rfl)) xs_nil) (xs_cons (xv_Expr rfl (ev_CallA rfl rfl (by decide) (ev_Name rfl) (am rfl rfl) (ca_mt (fn_start' P sa is)) (evL_cons rfl (ev_Name rfl) (evL_cons rfl (ev_Name rfl) (evL_cons rfl (ev_Name rfl) evL_nil))) evKw_nil g5)) xs_nil)))
  have hdat:=R.dat
  by_cases hd0:T.dat=[]
  ·have hd1:s.dat=[]:=by rw[hdat,hd0]; rfl
   have e1:s1=s:=by
    show flT s T.dat=s
    rw[hd0]; exact flT_nil hd1
   rw[e1] at tail
   exact c_mt (run_fn (fn_start P sa is) .start body_start nm_start (xs_cons (xv_If (tv_Bool (test_stop (tv_Cmp rfl (ev_Attr rfl (ev_Name rfl) (fs rfl rfl) rfl) (ev_Const rfl) (cmpR rfl)) rfl)) xs_nil) (xs_cons (xv_If (tv_Gen rfl (ev_Attr rfl (ev_Name rfl) (fs rfl rfl) rfl) (tr_listF (f3.trans (by rw[hd1])))) xs_nil) tail)) rfl)
  ·have hne:s.dat≠[]:=by rw[hdat]; exact fun q=>hd0 (List.map_eq_nil_iff.mp q)
   have hlen:s.dat.length≤lim:=by rw[hdat,List.length_map]; have:=B.dat; exact toLim (by trivial)
   have q:=t_flush (b:=b) (G:=G) (n:=n) (P:=P) (sa:=sa) (is:=is) (k:=k+30) hdat (R.seen.trans (B.seen.resolve_left hd0)) B.cat B.dat (by rw[R.out,List.length_map]; trivial)
   rw[flO_eq] at q
   exact c_mt (run_fn (fn_start P sa is) .start body_start nm_start (xs_cons (xv_If (tv_Bool (test_stop (tv_Cmp rfl (ev_Attr rfl (ev_Name rfl) (fs rfl rfl) rfl) (ev_Const rfl) (cmpR rfl)) rfl)) xs_nil) (xs_cons (xv_If (tv_Gen rfl (ev_Attr rfl (ev_Name rfl) (fs rfl rfl) rfl) (tr_listT f3 hlen hne)) (xs_cons (xv_Expr rfl (ev_CallA rfl rfl (by decide) (ev_Name rfl) (am rfl rfl) (ca_mt (fn_flush P sa is)) evL_nil evKw_nil q)) xs_nil)) tail)) rfl)
end
section
variable {b:Nat} {s:S3} {G G0:Nat→AObj} {n:Nat} {P:Params} {sa:Addr} {is:List Int}
noncomputable def sc_startns:Sc:=[("self",.local),("prefix",.local),("uri",.local)]
theorem nm_startns:(fdAt (hd.heap_39 P) 113).scope.names=sc_startns:=by kernel_rfl
theorem body_startns:(fdAt (hd.heap_39 P) 113).body = .stmts (bodyAt (hd.heap_39 P) 113):=by kernel_rfl
theorem t_startns{k:Nat}{x u:Str}(hd0:s.dat=[])(hns:s.ns=[.ref (b+7),.ref (b+8)])(ht:s.told.length≤10):
  Ev (pe3 P sa is) (k+30) (.c (.mt 113 (.ref (b+2))) [.str x,.str u] [] (mk3 b s G n)) (.v .none (mk3 b { s with told:=s.told++[pv (u,x)] } G n)):=by
 have hix:index (mk3 b s G n) (.ref (b+6)) (.int (-1))=some (.ref (b+8)):=by
  show idxO ((mk3 b s G n).f (b+6)) _=_
  rw[f6,hns]; rfl
 exact c_mt (run_fn (fn_startns P sa is) .startns body_startns nm_startns (xs_cons (xv_If (tv_Gen rfl (ev_Attr rfl (ev_Name rfl) (fs rfl rfl) rfl) rfl) xs_nil) (xs_cons (xv_If (tv_Gen rfl (ev_Attr rfl (ev_Name rfl) (fs rfl rfl) rfl) (tr_listF (f3.trans (by rw[hd0])))) xs_nil) (xs_cons (xv_Expr rfl (ev_CallA rfl rfl (by decide) (ev_Idx rfl (ev_Attr rfl (ev_Name rfl) (fs rfl rfl) rfl) (ev_Neg (ev_Const rfl)) hix) (attr_list f8 rfl) rfl (evL_cons rfl (ev_Tuple (evL_cons rfl (ev_Name rfl) (evL_cons rfl (ev_Name rfl) evL_nil)) (leR rfl)) evL_nil) evKw_nil (c_bm (pv_append f8 (ltLim (by trivial)) p8)))) xs_nil))) rfl)
theorem t_text{k:Nat}{T:TS}{x:Str}{ls:List (Nat×List Str)}{ns:List Nat}(R:TR b T G0 s G n ls ns)(hl:T.dat.length≤1000):
  ∃ s',TR b (T.text x) G0 s' G n ls ns∧Ev (pe3 P sa is) (k+12) (.c (.mt 97 (.ref (b+2))) [.str x] [] (mk3 b s G n)) (.v .none (mk3 b s' G n)):=by
 have S:=R.st
 refine ⟨{ s with dat:=s.dat++[.str x] },⟨⟨S.hn,S.decl,S.lv,S.nd,S.nsS,S.nsl,S.nsn,S.told,S.apart,S.few⟩,R.out,?_,R.pres,R.lv,R.nsl,R.seen,R.low⟩,t_data (by rw[R.dat,List.length_map]; exact ltLim (by trivial))⟩
 show s.dat++[_]=(T.dat++[x]).map .str
 rw[R.dat,List.map_append]; rfl
noncomputable def sc_end:Sc:=[("self",.local),("tag",.local),("len",.globalImplicit)]
theorem nm_end:(fdAt (hd.heap_39 P) 133).scope.names=sc_end:=by kernel_rfl
theorem body_end:(fdAt (hd.heap_39 P) 133).body = .stmts (bodyAt (hd.heap_39 P) 133):=by kernel_rfl
noncomputable abbrev locE(b:Nat)(t:Str):Loc:=[("self",.ref (b+2)),("tag",.str t)]
theorem end_tail{k:Nat}{m:Nm}(hm:m∈kn){ls:List (Nat×List Str)}{d w:Nat}{D:List Str}{ns:List Nat}(S:St3 b s G n (ls++[(d,D)]) (ns++[w]))(hf:((ls++[(d,D)]).flatMap (·.2)).length≤99)(hll:ls.length≤1000)(K:SOk s):
  Ex3_8 (fun s' G' n'=>n≤n') (fun s' G' n'=>(∀ i,i<b→G' i=G i)) (fun s' G' n'=>St3 b s' G' n' ls ns) (fun s' G' n'=>s'.out=s.out++[.str (enO m)]) (fun s' G' n'=>s'.dat=s.dat) (fun s' G' n'=>s'.pres=s.pres.dropLast) (fun s' G' n'=>s'.seen=s.seen) (fun s' G' n'=>Ev (pe3 P sa is) (k+58) (.xs sc_end ((bodyAt (hd.heap_39 P) 133).drop 2) (locE b m.q) (mk3 b s G n)) (.f .next (locE b m.q) (mk3 b s' G' n'))):=by
 obtain ⟨G',n',h1,h2,h3,h4,h5⟩:=t_qn (P:=P) (sa:=sa) (is:=is) (k:=k+12) hm S hf
 have hd1:b+11≤d:=(S.lv (d,D) (List.mem_append_right _ (.head _))).1
 have K1:=K.hpl
 have K2:=K.hnl
 have K3:=K.hol
 have hml:=full_len m hm
 let s1:S3:={ s with out:=s.out++[.str (enO m)] }
 let s2:S3:={ s1 with pres:=s.pres.dropLast }
 let s3:S3:={ s2 with done:=((s.pres.dropLast.length:Int)==1) }
 let s4:S3:={ s3 with decl:=s.decl.dropLast }
 let s5:S3:={ s4 with ns:=s.ns.dropLast }
 have q2:s.decl.getLast? = some (.ref d):=by rw[S.decl,List.map_append,← List.cons_append]; exact List.getLast?_concat
 have q3:s.ns.getLast? = some (.ref w):=by rw[S.nsS,List.map_append,← List.cons_append,← List.cons_append]; exact List.getLast?_concat
 have q4:s.decl.dropLast = .ref (b+4)::ls.map fun l => .ref l.1:=by rw[S.decl,List.map_append,← List.cons_append]; exact List.dropLast_concat
 have q5:s.ns.dropLast = .ref (b+7) :: .ref (b+8)::ns.map .ref:=by rw[S.nsS,List.map_append,← List.cons_append,← List.cons_append]; exact List.dropLast_concat
 have z2:s.decl.length≤lim:=by rw[S.decl]; show (List.map _ _).length+1≤_; rw[List.length_map,List.length_append]; exact toLim (by show ls.length+1+1≤_; trivial)
 have nd:=h4.nd
 rw[List.map_append] at nd
 refine ⟨s5,G',n',h1,fun i hi=>h3 i (by have:=S.hn; trivial) (by trivial),⟨h4.hn,q4,fun l hl=>h4.lv l (List.mem_append_left _ hl),(List.nodup_append.mp nd).1,q5,fun e he=>h4.nsl e (List.mem_append_left _ he),(List.nodup_append.mp S.nsn).1,S.told,fun e he l hl=>S.apart e (List.mem_append_left _ he) l (List.mem_append_left _ hl),?_,?_⟩,rfl,rfl,rfl,rfl,?_⟩
 ·rw[flen] at hf; trivial
 ·have:=S.few.2
  rw[List.length_append] at this; trivial
 have e3:(Str.empty++"</"++m.full).length=2+m.full.length:=by rw[sLen]; rfl
 exact (xs_cons (xv_Expr rfl (ev_CallA rfl rfl (by decide) (ev_Name rfl) (fa rfl rfl) rfl (evL_cons rfl (ev_Joined (joinC ⟨leR rfl,leR rfl⟩ (joinF (ev_Idx rfl (ev_CallA rfl rfl (by decide) (ev_Name rfl) (am rfl rfl) (ca_mt (fn_qname P sa is)) (evL_cons rfl (ev_Name rfl) evL_nil) evKw_nil h5) (ev_Const rfl) rfl) ⟨leR rfl,by trivial⟩ (joinC ⟨by rw[e3]; trivial,leR rfl⟩ join_nil)))) evL_nil) evKw_nil (c_bm (pv_append f0 (ltLim (by trivial)) p0)))) (xs_cons (xv_Expr rfl (ev_CallA rfl rfl (by decide) (ev_Attr rfl (ev_Name rfl) (fs rfl rfl) rfl) (attr_list f10 rfl) rfl evL_nil evKw_nil (c_bm (pv_pop f10 K.hpr (toLim (by show s.pres.length≤_; trivial)) p10)))) (xs_cons (xv_Asg rfl (fun ι=>rfl) (ev_Cmp rfl (ev_CallN (lk_glob (by decide) rfl glob_len) rfl (evL_cons rfl (ev_Attr rfl (ev_Name rfl) (fs rfl rfl) rfl) evL_nil) evKw_nil (c_bf (fv_len f10 (toLim (by show s.pres.dropLast.length≤_; rw[List.length_dropLast]; trivial))))) (ev_Const rfl) (cmpR rfl)) (asgs_one rfl (asg_Attr (ev_Name rfl) (ins rfl) pDone))) (xs_cons (xv_Expr rfl (ev_CallA rfl rfl (by decide) (ev_Attr rfl (ev_Name rfl) (fs rfl rfl) rfl) (attr_list f5 rfl) rfl evL_nil evKw_nil (c_bm (pv_pop f5 q2 z2 p5)))) (xs_cons (xv_Expr rfl (ev_CallA rfl rfl (by decide) (ev_Attr rfl (ev_Name rfl) (fs rfl rfl) rfl) (attr_list f6 rfl) rfl evL_nil evKw_nil (c_bm (pv_pop f6 q3 (toLim (by show s.ns.length≤_; trivial)) p6)))) xs_nil)))))
theorem snoc_of{α:Type}{l:List α}{m:Nat}(h:l.length=m+1):Ex2_2 (fun l0 x=>l=l0++[x]) (fun l0 x=>l0.length=m):=by
 have hne:l≠[]:=fun q=>by rw[q] at h; exact absurd h (by show ¬ 0=m+1; trivial)
 refine ⟨l.dropLast,l.getLast hne,(List.dropLast_concat_getLast hne).symm,?_⟩
 rw[List.length_dropLast]; trivial
theorem t_end{k:Nat}{T:TS}{m:Nm}(hm:m∈kn){ls:List (Nat×List Str)}{ns:List Nat}(R:TR b T G0 s G n ls ns)(B:TB T)(hlv:T.lv≠[]):
  Ex5_3 (fun s' G' n' ls' ns'=>n≤n') (fun s' G' n' ls' ns'=>TR b (T.fin m) G0 s' G' n' ls' ns') (fun s' G' n' ls' ns'=>Ev (pe3 P sa is) (k+62) (.c (.mt 133 (.ref (b+2))) [.str m.q] [] (mk3 b s G n)) (.v .none (mk3 b s' G' n'))):=by
 have e1:T.lv.length=(T.lv.length-1)+1:=by have:=List.length_pos_iff.mpr hlv; trivial
 have hls:ls.length=T.lv.length:=by rw[← R.lv,List.length_map]
 obtain ⟨ls0,⟨d,D⟩,rfl,l2⟩:=snoc_of (hls.trans e1)
 obtain ⟨ns0,w,rfl,n2⟩:=snoc_of (R.nsl.trans e1)
 have hB:=B.lv
 have hO:=B.out
 have hfl:=flL_len T.dat
 have hdat:=R.dat
 have K:SOk (flT s T.dat):=by
  have e1:(flT s T.dat).pres=List.replicate (T.lv.length+1) (.bool false):=R.pres
  refine ⟨by rw[e1]; exact rep_last,by rw[e1,List.length_replicate]; trivial,?_,?_⟩
  ·show s.ns.length≤_
   rw[R.st.nsS]
   show ((ns0++[w]).map V.ref).length+1+1≤_
   rw[List.length_map,R.nsl]; trivial
  ·show (s.out++_).length≤_
   rw[R.out,List.length_append,List.length_map,List.length_map]; trivial
 obtain ⟨s',G',n',h1,h2,h3,h4,h5,h6,h7,h8⟩:=end_tail (P:=P) (sa:=sa) (is:=is) (k:=k+3) hm (R.st.flush (l:=T.dat)) (by rw[fm_lv R.lv]; have:=B.us; trivial) (by trivial) K
 refine ⟨s',G',n',ls0,ns0,h1,⟨h3,?_,h5,?_,?_,?_,h7.trans R.seen,fun i hi=>(h2 i hi).trans (R.low i hi)⟩,?_⟩
 ·rw[h4]
  show (s.out++(flL T.dat).map V.str)++[_]=(T.out++flL T.dat++[enO m]).map V.str
  rw[R.out,List.map_append,List.map_append]; rfl
 ·rw[h6]
  show s.pres.dropLast=List.replicate (T.lv.dropLast.length+1) _
  rw[R.pres,List.length_dropLast,List.replicate_succ',List.dropLast_concat,← e1]
 ·show _=T.lv.dropLast
  rw[← R.lv,List.map_append]; exact List.dropLast_concat.symm
 ·show _=T.lv.dropLast.length
  rw[List.length_dropLast]; exact n2
 ·by_cases hd0:T.dat=[]
  ·have hd1:s.dat=[]:=by rw[hdat,hd0]; rfl
   have e1:flT s T.dat=s:=by
    rw[hd0]; exact flT_nil hd1
   rw[e1] at h8
   exact c_mt (run_fn (fn_end P sa is) .end_ body_end nm_end (xs_cons (xv_If (tv_Gen rfl (ev_Attr rfl (ev_Name rfl) (fs rfl rfl) rfl) rfl) xs_nil) (xs_cons (xv_If (tv_Gen rfl (ev_Attr rfl (ev_Name rfl) (fs rfl rfl) rfl) (tr_listF (f3.trans (by rw[hd1])))) xs_nil) h8)) rfl)
  ·have hne:s.dat≠[]:=by rw[hdat]; exact fun q=>hd0 (List.map_eq_nil_iff.mp q)
   have hlen:s.dat.length≤lim:=by rw[hdat,List.length_map]; have:=B.dat; exact toLim (by trivial)
   have q:=t_flush (b:=b) (G:=G) (n:=n) (P:=P) (sa:=sa) (is:=is) (k:=k+28) hdat (R.seen.trans (B.seen.resolve_left hd0)) B.cat B.dat (by rw[R.out,List.length_map]; trivial)
   rw[flO_eq] at q
   exact c_mt (run_fn (fn_end P sa is) .end_ body_end nm_end (xs_cons (xv_If (tv_Gen rfl (ev_Attr rfl (ev_Name rfl) (fs rfl rfl) rfl) rfl) xs_nil) (xs_cons (xv_If (tv_Gen rfl (ev_Attr rfl (ev_Name rfl) (fs rfl rfl) rfl) (tr_listT f3 hlen hne)) (xs_cons (xv_Expr rfl (ev_CallA rfl rfl (by decide) (ev_Name rfl) (am rfl rfl) (ca_mt (fn_flush P sa is)) evL_nil evKw_nil q)) xs_nil)) h8)) rfl)
end
section
variable {b:Nat} {s:S3} {G G0:Nat→AObj} {n:Nat} {P:Params} {sa:Addr} {is:List Int}
inductive Et where
 | st (m:Nm) (at':List (Nm×Str))
 | en (m:Nm)
 | tx (x:Str)
noncomputable def Et.kd:Et→Str
 | .st _ _=>"start"
 | .en _=>"end"
 | .tx _=>"text"
noncomputable def Et.nm:Et→Str
 | .st m _=>m.q
 | .en m=>m.q
 | .tx x=>x
noncomputable def Et.ats:Et→List (Str×V)
 | .st _ l=>kvsOf l
 | _=>[]
noncomputable def evV(p:Et×Nat):V := .tup [.str p.1.kd,.str p.1.nm,.ref p.2]
noncomputable def TS.ev(T:TS):Et→TS
 | .st m l=>T.start m l
 | .en m=>T.fin m
 | .tx x=>T.text x
noncomputable def TS.evs(T:TS)(E:List Et):TS:=E.foldl TS.ev T
noncomputable def okE(T:TS):Et→Prop
 | .st m l=>m∈t4∧AtOk l
 | .en m=>m∈kn∧T.lv≠[]
 | .tx _=>True
inductive GoodE:TS→List Et→Prop
 | nil {T}:GoodE T []
 | cons {T e E}:TB T→okE T e→GoodE (T.ev e) E→GoodE T (e::E)
noncomputable def sc_told:Sc:=[("events",.local),("out",.local),("target",.local),("prefix",.local),("uri",.local),("kind",.local),("name",.local),("attrs",.local),("C14NWriterTarget",.globalImplicit),("dict",.globalImplicit)]
theorem nm_told:(fdAt (hd.heap_39 P) 182).scope.names=sc_told:=by kernel_rfl
theorem body_told:(fdAt (hd.heap_39 P) 182).body = .stmts (bodyAt (hd.heap_39 P) 182):=by kernel_rfl
theorem glob_cls:(pe3 P sa is).glob "C14NWriterTarget"=some (.fn 150):=by kernel_rfl
theorem ca_cls:callable (pe3 P sa is) (.fn 150)=true:=by kernel_rfl
theorem glob_dict:(pe3 P sa is).glob "dict"=some (.bf .dict):=by kernel_rfl
noncomputable abbrev locT(b i:Nat):Loc:=[("events",.ref i),("out",.ref b),("target",.ref (b+2))]
noncomputable abbrev tTd(P:Params):Expr:=forT (bodyAt (hd.heap_39 P) 182)[3]?
noncomputable abbrev bTd(P:Params):List Stmt:=forB (bodyAt (hd.heap_39 P) 182)[3]?
theorem TR.up{T:TS}{G':Nat→AObj}{n':Nat}{ls:List (Nat×List Str)}{ns:List Nat}(R:TR b T G0 s G n ls ns)(hn:n≤n')(hG:∀ i,i<n→G' i=G i):TR b T G0 s G' n' ls ns :=
 ⟨R.st.up hn hG,R.out,R.dat,R.pres,R.lv,R.nsl,R.seen,fun i hi=>(hG i (by have:=R.st.hn; trivial)).trans (R.low i hi)⟩
theorem told_loop{k i:Nat}{H0:Hp}(h0:0<b)(hG0:G0 0 = .tab 123 lamName)(hi:i<b)(hH:H0.f i=G0 i){E:List (Et×Nat)}:∀ {T:TS} {s:S3} {G:Nat→AObj} {n:Nat} {ls:List (Nat×List Str)} {ns:List Nat},TR b T G0 s G n ls ns→GoodE T (E.map (·.1))→(∀ p∈E,p.2<b∧G0 p.2 = .dict p.1.ats) →
  Ex6_3 (fun s' G' n' ls' ns' ex=>n≤n') (fun s' G' n' ls' ns' ex=>TR b (T.evs (E.map (·.1))) G0 s' G' n' ls' ns') (fun s' G' n' ls' ns' ex=>Ev (pe3 P sa is) (k+75) (.for sc_told (tTd P) (bTd P) (some i) H0 (E.map evV) (locT b i) (mk3 b s G n)) (.f .next (locT b i++ex) (mk3 b s' G' n'))):=by
 induction E with
 | nil=>exact fun {T s G n ls ns} R ι ι=>⟨s,G,n,ls,ns,[],Nat.le_refl _,R,for_nil⟩
 | cons p E ih =>
  intro T s G n ls ns R hg hp
  obtain ⟨e,d⟩:=p
  obtain ⟨hd1,hd2⟩:=hp (e,d) (.head _)
  have hn:=R.st.hn
  have hst:∀ {s':S3} {G':Nat→AObj} {n':Nat} {ls' ns'} {T':TS},TR b T' G0 s' G' n' ls' ns'→stands H0 (mk3 b s' G' n') (some i):=fun R'=>(mk3_at (.inl hi)).trans ((R'.low i hi).trans hH.symm)
  cases hg with
  | cons B ok hg =>
  cases e with
  | st m l =>
   let G1:=upd G n (.dict (kvsOf l))
   have R1:TR b T G0 s G1 (n+1) ls ns:=R.up (by trivial) fun j hj=>upd_ne (by trivial)
   obtain ⟨s2,G2,n2,ls2,ns2,g1,g2,g3⟩:=t_start (P:=P) (sa:=sa) (is:=is) (k:=k+8) ok.1 ok.2 R1 B ⟨hn,Nat.lt_succ_self _⟩ upd_at h0 hG0
   obtain ⟨s3,G3,n3,ls3,ns3,ex,f1,f2,f3⟩:=ih g2 hg fun q hq=>hp q (.tail _ hq)
   have hdf:(mk3 b s G n).f d = .dict (kvsOf l):=(mk3_at (.inl hd1)).trans ((R.low d hd1).trans hd2)
   have h4:(kvsOf l).length≤lim:=by unfold kvsOf; rw[List.length_map]; have:=ok.2.len; exact toLim (by trivial)
   have hal:(mk3 b s G n).alloc (.dict (kvsOf l))=mk3 b s G1 (n+1):=mk3_alloc hn
   refine ⟨s3,G3,n3,ls3,ns3,ex,by trivial,f2,for_go (fl := .next) (H1:=mk3 b s2 G2 n2) (loc2:=locT b i++([("kind",.str "start"),("name",.str m.q),("attrs",.ref d)]:Loc)) (fb rfl ?_) rfl (for_forget lk_app f3) (hst g2)⟩
   exact xs_cons (xv_If (tv_Cmp rfl (ev_Name rfl) (ev_Const rfl) (cmpR rfl)) (xs_cons (xv_Expr rfl (ev_CallA rfl rfl (by decide) (ev_Name rfl) (am rfl rfl) (ca_mt (fn_start P sa is)) (evL_cons rfl (ev_Name rfl) (evL_cons rfl (ev_CallN (lk_glob (by decide) rfl glob_dict) rfl (evL_cons rfl (ev_Name rfl) evL_nil) evKw_nil (c_bf (fv_dict hdf h4 hal))) evL_nil)) evKw_nil g3)) xs_nil)) xs_nil
  | en m =>
   obtain ⟨s2,G2,n2,ls2,ns2,g1,g2,g3⟩:=t_end (P:=P) (sa:=sa) (is:=is) (k:=k+9) ok.1 R B ok.2
   obtain ⟨s3,G3,n3,ls3,ns3,ex,f1,f2,f3⟩:=ih g2 hg fun q hq=>hp q (.tail _ hq)
   refine ⟨s3,G3,n3,ls3,ns3,ex,by trivial,f2,for_go (fl := .next) (H1:=mk3 b s2 G2 n2) (loc2:=locT b i++([("kind",.str "end"),("name",.str m.q),("attrs",.ref d)]:Loc)) (fb rfl ?_) rfl (for_forget lk_app f3) (hst g2)⟩
   exact xs_cons (xv_If (tv_Cmp rfl (ev_Name rfl) (ev_Const rfl) (cmpR rfl)) (xs_cons (xv_If (tv_Cmp rfl (ev_Name rfl) (ev_Const rfl) (cmpR rfl)) (xs_cons (xv_Expr rfl (ev_CallA rfl rfl (by decide) (ev_Name rfl) (am rfl rfl) (ca_mt (fn_end P sa is)) (evL_cons rfl (ev_Name rfl) evL_nil) evKw_nil g3)) xs_nil)) xs_nil)) xs_nil
  | tx x =>
   obtain ⟨s2,g2,g3⟩:=t_text (P:=P) (sa:=sa) (is:=is) (k:=k+59) (x:=x) R B.dat
   obtain ⟨s3,G3,n3,ls3,ns3,ex,f1,f2,f3⟩:=ih g2 hg fun q hq=>hp q (.tail _ hq)
   refine ⟨s3,G3,n3,ls3,ns3,ex,by trivial,f2,for_go (fl := .next) (H1:=mk3 b s2 G n) (loc2:=locT b i++([("kind",.str "text"),("name",.str x),("attrs",.ref d)]:Loc)) (fb rfl ?_) rfl (for_forget lk_app f3) (hst g2)⟩
   exact xs_cons (xv_If (tv_Cmp rfl (ev_Name rfl) (ev_Const rfl) (cmpR rfl)) (xs_cons (xv_If (tv_Cmp rfl (ev_Name rfl) (ev_Const rfl) (cmpR rfl)) (xs_cons (xv_Expr rfl (ev_CallA rfl rfl (by decide) (ev_Name rfl) (am rfl rfl) (ca_mt (fn_data P sa is)) (evL_cons rfl (ev_Name rfl) evL_nil) evKw_nil g3)) xs_nil)) xs_nil)) xs_nil
noncomputable def T0:TS:=⟨[],[],[],false⟩
noncomputable def toldD:List V:=[.tup [.str "r",.str "w"],.tup [.str "",.str "d"],.tup [.str "q",.str "v"],.tup [.str "p",.str "u"]]
noncomputable def sD(b j:Nat):S3:={ s0 b with told:=(told4.take j).map pv }
theorem sns{k j:Nat}{x u:Str}(hj:j≤4)(e:(told4.take (j+1)).map pv=(told4.take j).map pv++[pv (u,x)]):Ev (pe3 P sa is) (k+30) (.c (.mt 113 (.ref (b+2))) [.str x,.str u] [] (mk3 b (sD b j) G n)) (.v .none (mk3 b (sD b (j+1)) G n)):=by
 have q:=t_startns (P:=P) (sa:=sa) (is:=is) (k:=k) (x:=x) (u:=u) (b:=b) (s:=sD b j) (G:=G) (n:=n) rfl rfl (by show (List.map pv _).length≤_; rw[List.length_map,List.length_take]; exact Nat.le_trans (Nat.min_le_left _ _) (by trivial))
 have e2:({ sD b j with told:=(sD b j).told++[pv (u,x)] }:S3)=sD b (j+1):=by
  show S3.mk _ _ _ _ _ _ ((told4.take j).map pv++[pv (u,x)]) _=S3.mk _ _ _ _ _ _ ((told4.take (j+1)).map pv) _
  rw[e]; rfl
 rw[e2] at q; exact q
theorem t_told{k i:Nat}{H:Hp}{E:List (Et×Nat)}(h0:0<H.n)(hH0:H.f 0 = .tab 123 lamName)(hi:i<H.n)(hE:H.f i = .list (E.map evV))(hp:∀ p∈E,p.2<H.n∧H.f p.2 = .dict p.1.ats)(hg:GoodE T0 (E.map (·.1)))(hl:(cat (T0.evs (E.map (·.1))).out).length≤10000000):
  ∃ H',(∀ j,j<H.n→H'.f j=H.f j)∧H.n≤H'.n∧Ev (pe3 P sa is) (k+80) (.c (.fn 182) [.ref i] [] H) (.v (.str (cat (T0.evs (E.map (·.1))).out)) H'):=by
 obtain ⟨G,b⟩:=H
 let G1:=upd G (b+11) (.list toldD)
 have al0:(Hp.mk G b).alloc (.list [])=hS b [.list []] G:=by
  refine congrArg (fun f=>Hp.mk f (b+1)) (funext fun j => ?_)
  show (if j=b then _ else G j)=if b≤j∧j<b+1 then _ else G j
  by_cases h:j=b
  ·rw[if_pos h,if_pos ⟨by trivial,by trivial⟩,h,Nat.sub_self]; rfl
  ·rw[if_neg h,if_neg fun q=>h (by trivial)]
 have al1:(mk3 b (s0 b) G (b+11)).alloc (.list toldD)=mk3 b (sD b 0) G1 (b+12):=mk3_alloc (Nat.le_refl _)
 have R:TR b T0 G (sD b 4) G1 (b+12) [] []:=⟨⟨by trivial,rfl,fun ι h=>(nomatch h),.nil,rfl,fun ι h=>(nomatch h),.nil,rfl,fun ι h=>(nomatch h),⟨Nat.zero_le _,Nat.zero_le _⟩⟩,rfl,rfl,rfl,rfl,rfl,rfl,fun j hj=>upd_ne (by trivial)⟩
 obtain ⟨s',G',n',ls',ns',ex,f1,f2,f3⟩:=told_loop (P:=P) (sa:=sa) (is:=is) (k:=k+3) (H0:=mk3 b (sD b 4) G1 (b+12)) h0 hH0 hi ((mk3_at (.inl hi)).trans (upd_ne (by have:i<b:=hi; trivial))) R hg hp
 have hit:items (mk3 b (sD b 4) G1 (b+12)) (.ref i)=some (E.map evV,some i):=items_ref ((mk3_at (.inl hi)).trans ((upd_ne (by have:i<b:=hi; trivial)).trans hE))
 have ht:(mk3 b (sD b 0) G1 (b+12)).f (b+11) = .list toldD:=(mk3_at (.inr (Nat.le_refl _))).trans upd_at
 have hjn:Prm (mk3 b s' G' n') .tJoin (.str "") [.ref b] (.str (cat (T0.evs (E.map (·.1))).out)) (mk3 b s' G' n'):=by
  have:=pv_join (H:=mk3 b s' G' n') (i:=b) (x:=Str.empty) (xs:=s'.out) (l:=(T0.evs (E.map (·.1))).out) f0 (by rw[f2.out]; exact strsOf_map _) (joinOk hl)
  rw[tjoin_cat] at this; exact this
 have hs4:∀ {s1:S3},stands (mk3 b (sD b 0) G1 (b+12)) (mk3 b s1 G1 (b+12)) (some (b+11)):=(mk3_at (.inr (Nat.le_refl _))).trans (mk3_at (.inr (Nat.le_refl _))).symm
 refine ⟨mk3 b s' G' n',fun j hj=>(mk3_at (.inl hj)).trans (f2.low j hj),by show b≤n'; have:=f2.st.hn; trivial,?_⟩
 exact c_fn (init_none (by decide)) (run_fn (fn_told P sa is) .told body_told nm_told (xs_cons (xv_Asg rfl (fun ι=>rfl) (ev_List evL_nil (leR rfl) al0) (asgs_one rfl (asg_Name rfl)))
  (xs_cons (xv_Asg rfl (fun ι=>rfl) (ev_CallN (lk_glob (by decide) rfl glob_cls) ca_cls (evL_cons rfl (ev_AttrL rfl (ev_Name rfl) (xs:=[]) (hS_at (k:=0) rfl)) evL_nil) evKw_nil (t_init (k:=k+47))) (asgs_one rfl (asg_Name rfl)))
  (xs_cons (xv_For rfl (ev_List (evL_cons rfl (ev_Tuple (evL_cons rfl (ev_Const rfl) (evL_cons rfl (ev_Const rfl) evL_nil)) (leR rfl)) (evL_cons rfl (ev_Tuple (evL_cons rfl (ev_Const rfl) (evL_cons rfl (ev_Const rfl) evL_nil)) (leR rfl)) (evL_cons rfl (ev_Tuple (evL_cons rfl (ev_Const rfl) (evL_cons rfl (ev_Const rfl) evL_nil)) (leR rfl)) (evL_cons rfl (ev_Tuple (evL_cons rfl (ev_Const rfl) (evL_cons rfl (ev_Const rfl) evL_nil)) (leR rfl)) evL_nil)))) (leR rfl) al1) (items_ref ht)
   (for_go (fb rfl (xs_cons (xv_Expr rfl (ev_CallA rfl rfl (by decide) (ev_Name rfl) (am rfl rfl) (ca_mt (fn_startns P sa is)) (evL_cons rfl (ev_Name rfl) (evL_cons rfl (ev_Name rfl) evL_nil)) evKw_nil (sns (k:=k+46) (j:=0) (by decide) rfl))) xs_nil)) rfl
   (for_go (fb rfl (xs_cons (xv_Expr rfl (ev_CallA rfl rfl (by decide) (ev_Name rfl) (am rfl rfl) (ca_mt (fn_startns P sa is)) (evL_cons rfl (ev_Name rfl) (evL_cons rfl (ev_Name rfl) evL_nil)) evKw_nil (sns (k:=k+46) (j:=1) (by decide) rfl))) xs_nil)) rfl
   (for_go (fb rfl (xs_cons (xv_Expr rfl (ev_CallA rfl rfl (by decide) (ev_Name rfl) (am rfl rfl) (ca_mt (fn_startns P sa is)) (evL_cons rfl (ev_Name rfl) (evL_cons rfl (ev_Name rfl) evL_nil)) evKw_nil (sns (k:=k+46) (j:=2) (by decide) rfl))) xs_nil)) rfl
   (for_go (fb rfl (xs_cons (xv_Expr rfl (ev_CallA rfl rfl (by decide) (ev_Name rfl) (am rfl rfl) (ca_mt (fn_startns P sa is)) (evL_cons rfl (ev_Name rfl) (evL_cons rfl (ev_Name rfl) evL_nil)) evKw_nil (sns (k:=k+46) (j:=3) (by decide) rfl))) xs_nil)) rfl for_nil hs4) hs4) hs4) hs4))
  (xs_forget (loc0:=locT b i) lk_app (xs_cons (xv_For rfl (ev_Name rfl) hit f3) (xs_forget lk_app (xs_stop (xv_Ret (ev_CallA rfl rfl (by decide) (ev_Const rfl) rfl rfl (evL_cons rfl (ev_Name rfl) evL_nil) evKw_nil (c_bm hjn))) rfl))))))) rfl)
end
section
variable {P:Params} {sa:Addr} {is:List Int}
noncomputable abbrev EL:=List (Et×Nat)
noncomputable def colG(d:Nat):EL→EL:=fun E=>E.rec (motive:=fun ι=>Nat→EL) (fun ι=>[]) (fun p ι r d=>p::(match p.1 with
 | .st _ _=>r (d+1)
 | .en _=>match d with
  | 0=>[]
  | d+1=>r d
 | .tx _=>r d)) d
noncomputable def skipG(j:Nat):EL→EL:=fun E=>E.rec (motive:=fun ι=>Nat→EL) (fun ι=>[]) (fun p t r j=>match p.1 with
 | .st _ _=>match j with
  | 0=>p::colG 0 t
  | j+1=>r j
 | _=>r j) j
theorem put_ne{H:Hp}{o:AObj}{i j:Nat}(h:i≠j):(H.put j o).f i=H.f i:=if_neg h
theorem put_eq{H:Hp}{o:AObj}{j:Nat}:(H.put j o).f j=o:=if_pos rfl
theorem alloc_lt{H:Hp}{o:AObj}{i:Nat}(h:i<H.n):(H.alloc o).f i=H.f i:=if_neg (Nat.ne_of_lt h)
theorem alloc_eq{H:Hp}{o:AObj}:(H.alloc o).f H.n=o:=if_pos rfl
theorem cmp_gtT{H:Hp}{x y:Int}(h:x>y):Cmp H .Gt (.int x) (.int y) true:=decide_eq_true h ▸ .gt
theorem cmp_ieqT{H:Hp}{x y:Int}(h:x=y):Cmp H .Eq (.int x) (.int y) true:=beq_iff_eq.mpr h ▸ .eq .int
theorem cmp_ieqF{H:Hp}{x y:Int}(h:x≠y):Cmp H .Eq (.int x) (.int y) false:=beq_false_of_ne h ▸ .eq .int
noncomputable def sc_part:Sc:=[("events",.local),("place",.local),("part",.local),("seen",.local),("deep",.local),("event",.local)]
theorem nm_part:(fdAt (hd.heap_39 P) 189).scope.names=sc_part:=by kernel_rfl
theorem body_part:(fdAt (hd.heap_39 P) 189).body = .stmts (bodyAt (hd.heap_39 P) 189):=by kernel_rfl
noncomputable abbrev locP'(i w:Nat)(pl se de:Int):Loc:=[("events",.ref i),("place",.int pl),("part",.ref w),("seen",.int se),("deep",.int de)]
noncomputable abbrev tPt(P:Params):Expr:=forT (bodyAt (hd.heap_39 P) 189)[3]?
noncomputable abbrev bPt(P:Params):List Stmt:=forB (bodyAt (hd.heap_39 P) 189)[3]?
noncomputable abbrev ex1(p:Et×Nat):Loc:=[("event",evV p)]
theorem sub1{d:Nat}:binS .Sub (.int (((d+1:Nat):Int)+1)) (.int 1)=some (.int ((d:Int)+1)):=congrArg (fun x=>some (V.int x)) (by trivial:((d+1:Nat):Int)+1-1=(d:Int)+1)
noncomputable def PtR(P:Params)(sa:Addr)(is:List Int)(k i w:Nat)(pl:Int)(H0:Hp)(E:EL)(se de:Int)(H H':Hp):Prop :=
 (∃ loc',Ev (pe3 P sa is) k (.for sc_part (tPt P) (bPt P) (some i) H0 (E.map evV) (locP' i w pl se de) H) (.f (.ret (.ref w)) loc' H')) ∨
 (Ex3 fun se' de' ex=>Ev (pe3 P sa is) k (.for sc_part (tPt P) (bPt P) (some i) H0 (E.map evV) (locP' i w pl se de) H) (.f .next (locP' i w pl se' de'++ex) H'))
theorem PtR.go{k i w:Nat}{pl:Int}{H0 H H1 H':Hp}{p:Et×Nat}{E:EL}{se de se1 de1:Int}(h1:Turn (pe3 P sa is) k sc_part (tPt P) (bPt P) (evV p) (locP' i w pl se de) H .next (locP' i w pl se1 de1++ex1 p) H1)(hs:stands H0 H1 (some i))(h2:PtR P sa is k i w pl H0 E se1 de1 H1 H'):PtR P sa is k i w pl H0 (p::E) se de H H':=by
 rcases h2 with ⟨l,h⟩ | ⟨a,c,x,h⟩
 ·exact .inl ⟨l,for_go h1 rfl (for_forget lk_app h) hs⟩
 ·exact .inr ⟨a,c,x,for_go h1 rfl (for_forget lk_app h) hs⟩
theorem col_loop{k i w:Nat}{pl:Int}{H0:Hp}(hiw:i≠w){E:EL}:∀ {acc:EL} {d:Nat} {se:Int} {H:Hp},H.f w = .list (acc.map evV)→H0.f i=H.f i→acc.length+E.length≤1000 →
  ∃ H',H'.f w = .list ((acc++colG d E).map evV)∧(∀ j,j≠w→H'.f j=H.f j)∧H'.n=H.n∧PtR P sa is (k+40) i w pl H0 E se ((d:Int)+1) H H':=by
 induction E with
 | nil=>exact fun {acc d se H} hw ι ι=>⟨H,by rw[hw]; exact congrArg (fun l:EL=>AObj.list (l.map evV)) (List.append_nil acc).symm,fun ι ι=>rfl,rfl,.inr ⟨se,_,[],for_nil⟩⟩
 | cons p E ih =>
  intro acc d se H hw hi hl
  rw[List.length_cons] at hl
  obtain ⟨e,dd⟩:=p
  let H1:=H.put w (.list (acc.map evV++[evV (e,dd)]))
  have hw1:H1.f w = .list ((acc++[(e,dd)]).map evV):=put_eq.trans (by rw[List.map_append]; rfl)
  have hs1:H0.f i=H1.f i:=hi.trans (put_ne hiw).symm
  have hst:stands H0 H1 (some i):=hs1.symm
  have hlen:(acc.map evV).length<lim:=by rw[List.length_map]; exact ltLim (by trivial)
  have hl1:(acc++[(e,dd)]).length+E.length≤1000:=by rw[List.length_append]; show acc.length+1+_≤_; trivial
  have ap:Prm H .lAppend (.ref w) [evV (e,dd)] .none H1:=pv_append hw hlen rfl
  have hgt:(d:Int)+1>0:=by trivial
  cases e with
  | st m l =>
   obtain ⟨H',a1,a2,a3,a4⟩:=ih (acc:=acc++[(.st m l,dd)]) (d:=d+1) (se:=se+1) hw1 hs1 hl1
   refine ⟨H',by rw[a1,List.append_assoc]; rfl,fun j hj=>(a2 j hj).trans (put_ne hj),a3,PtR.go (fb rfl ?_) hst a4⟩
   exact xs_cons (xv_If (tv_Cmp rfl (ev_Idx rfl (ev_Name rfl) (ev_Const rfl) rfl) (ev_Const rfl) (cmpR rfl)) (xs_cons (xv_Aug rfl rfl rfl (ev_Const rfl) (binR rfl)) (xs_cons (xv_If (tv_Bool (test_stop (tv_Cmp rfl (ev_Name rfl) (ev_Const rfl) (cmp_gtT hgt)) rfl)) (xs_cons (xv_Aug rfl rfl rfl (ev_Const rfl) (binR rfl)) xs_nil)) xs_nil))) (xs_cons (xv_If (tv_Cmp rfl (ev_Name rfl) (ev_Const rfl) (cmp_gtT (show (d:Int)+1+1>0 by trivial))) (xs_cons (xv_Expr rfl (ev_CallA rfl rfl (by decide) (ev_Name rfl) (attr_list hw rfl) rfl (evL_cons rfl (ev_Name rfl) evL_nil) evKw_nil (c_bm ap))) (xs_cons (xv_If (tv_Cmp rfl (ev_Idx rfl (ev_Name rfl) (ev_Const rfl) rfl) (ev_Const rfl) (cmpR rfl)) xs_nil) xs_nil))) xs_nil)
  | tx x =>
   obtain ⟨H',a1,a2,a3,a4⟩:=ih (acc:=acc++[(.tx x,dd)]) (d:=d) (se:=se) hw1 hs1 hl1
   refine ⟨H',by rw[a1,List.append_assoc]; rfl,fun j hj=>(a2 j hj).trans (put_ne hj),a3,PtR.go (fb rfl ?_) hst a4⟩
   exact xs_cons (xv_If (tv_Cmp rfl (ev_Idx rfl (ev_Name rfl) (ev_Const rfl) rfl) (ev_Const rfl) (cmpR rfl)) xs_nil) (xs_cons (xv_If (tv_Cmp rfl (ev_Name rfl) (ev_Const rfl) (cmp_gtT hgt)) (xs_cons (xv_Expr rfl (ev_CallA rfl rfl (by decide) (ev_Name rfl) (attr_list hw rfl) rfl (evL_cons rfl (ev_Name rfl) evL_nil) evKw_nil (c_bm ap))) (xs_cons (xv_If (tv_Cmp rfl (ev_Idx rfl (ev_Name rfl) (ev_Const rfl) rfl) (ev_Const rfl) (cmpR rfl)) xs_nil) xs_nil))) xs_nil)
  | en m =>
   cases d with
   | zero =>
    exact ⟨H1,hw1,fun j hj=>put_ne hj,rfl,.inl ⟨_,for_end (fb rfl (xs_cons (xv_If (tv_Cmp rfl (ev_Idx rfl (ev_Name rfl) (ev_Const rfl) rfl) (ev_Const rfl) (cmpR rfl)) xs_nil) (xs_stop (xv_If (tv_Cmp rfl (ev_Name rfl) (ev_Const rfl) (cmpR rfl)) (xs_cons (xv_Expr rfl (ev_CallA rfl rfl (by decide) (ev_Name rfl) (attr_list hw rfl) rfl (evL_cons rfl (ev_Name rfl) evL_nil) evKw_nil (c_bm ap))) (xs_stop (xv_If (tv_Cmp rfl (ev_Idx rfl (ev_Name rfl) (ev_Const rfl) rfl) (ev_Const rfl) (cmpR rfl)) (xs_cons (xv_Aug rfl rfl rfl (ev_Const rfl) (binR rfl)) (xs_stop (xv_If (tv_Cmp rfl (ev_Name rfl) (ev_Const rfl) (cmpR rfl)) (xs_stop (xv_Ret (ev_Name rfl)) rfl)) rfl))) rfl))) rfl)))⟩⟩
   | succ d =>
    obtain ⟨H',a1,a2,a3,a4⟩:=ih (acc:=acc++[(.en m,dd)]) (d:=d) (se:=se) hw1 hs1 hl1
    refine ⟨H',by rw[a1,List.append_assoc]; rfl,fun j hj=>(a2 j hj).trans (put_ne hj),a3,PtR.go (fb rfl ?_) hst a4⟩
    exact xs_cons (xv_If (tv_Cmp rfl (ev_Idx rfl (ev_Name rfl) (ev_Const rfl) rfl) (ev_Const rfl) (cmpR rfl)) xs_nil) (xs_cons (xv_If (tv_Cmp rfl (ev_Name rfl) (ev_Const rfl) (cmp_gtT hgt)) (xs_cons (xv_Expr rfl (ev_CallA rfl rfl (by decide) (ev_Name rfl) (attr_list hw rfl) rfl (evL_cons rfl (ev_Name rfl) evL_nil) evKw_nil (c_bm ap))) (xs_cons (xv_If (tv_Cmp rfl (ev_Idx rfl (ev_Name rfl) (ev_Const rfl) rfl) (ev_Const rfl) (cmpR rfl)) (xs_cons (xv_Aug rfl rfl rfl (ev_Const rfl) (binR sub1)) (xs_cons (xv_If (tv_Cmp rfl (ev_Name rfl) (ev_Const rfl) (cmp_ieqF (show (d:Int)+1≠0 by trivial))) xs_nil) xs_nil))) xs_nil))) xs_nil)
theorem skip_loop{k i w:Nat}{pl:Int}{H0:Hp}(hiw:i≠w){E:EL}:∀ {j:Nat} {se:Int} {H:Hp},pl=se+1+j→H.f w = .list []→H0.f i=H.f i→E.length≤1000 →
  ∃ H',H'.f w = .list ((skipG j E).map evV)∧(∀ j,j≠w→H'.f j=H.f j)∧H'.n=H.n∧PtR P sa is (k+40) i w pl H0 E se 0 H H':=by
 induction E with
 | nil=>exact fun {j se H} ι hw ι ι=>⟨H,hw,fun ι ι=>rfl,rfl,.inr ⟨se,_,[],for_nil⟩⟩
 | cons p E ih =>
  intro j se H hj hw hi hl
  rw[List.length_cons] at hl
  obtain ⟨e,dd⟩:=p
  cases e with
  | st m l =>
   cases j with
   | zero =>
    let H1:=H.put w (.list ([]++[evV (.st m l,dd)]))
    have hs1:H0.f i=H1.f i:=hi.trans (put_ne hiw).symm
    have hpl:pl=se+1:=by rw[hj]; exact Int.add_zero _
    obtain ⟨H',a1,a2,a3,a4⟩:=col_loop (P:=P) (sa:=sa) (is:=is) (k:=k) (pl:=pl) hiw (E:=E) (acc:=[(.st m l,dd)]) (d:=0) (se:=se+1) (H0:=H0) (H:=H1) put_eq hs1 (by show 1+_≤_; trivial)
    refine ⟨H',a1,fun j hj=>(a2 j hj).trans (put_ne hj),a3,PtR.go (fb rfl ?_) hs1.symm a4⟩
    exact xs_cons (xv_If (tv_Cmp rfl (ev_Idx rfl (ev_Name rfl) (ev_Const rfl) rfl) (ev_Const rfl) (cmpR rfl)) (xs_cons (xv_Aug rfl rfl rfl (ev_Const rfl) (binR rfl)) (xs_cons (xv_If (tv_Bool (test_go (tv_Cmp rfl (ev_Name rfl) (ev_Const rfl) (cmpR rfl)) rfl (test_stop (tv_Cmp rfl (ev_Name rfl) (ev_Name rfl) (cmp_ieqT hpl.symm)) rfl))) (xs_cons (xv_Aug rfl rfl rfl (ev_Const rfl) (binR rfl)) xs_nil)) xs_nil))) (xs_cons (xv_If (tv_Cmp rfl (ev_Name rfl) (ev_Const rfl) (cmpR rfl)) (xs_cons (xv_Expr rfl (ev_CallA rfl rfl (by decide) (ev_Name rfl) (attr_list hw rfl) rfl (evL_cons rfl (ev_Name rfl) evL_nil) evKw_nil (c_bm (pv_append hw (by decide) rfl)))) (xs_cons (xv_If (tv_Cmp rfl (ev_Idx rfl (ev_Name rfl) (ev_Const rfl) rfl) (ev_Const rfl) (cmpR rfl)) xs_nil) xs_nil))) xs_nil)
   | succ j =>
    obtain ⟨H',a1,a2,a3,a4⟩:=ih (j:=j) (se:=se+1) (H:=H) (by rw[hj]; trivial) hw hi (by trivial)
    refine ⟨H',a1,a2,a3,PtR.go (fb rfl ?_) hi.symm a4⟩
    exact xs_cons (xv_If (tv_Cmp rfl (ev_Idx rfl (ev_Name rfl) (ev_Const rfl) rfl) (ev_Const rfl) (cmpR rfl)) (xs_cons (xv_Aug rfl rfl rfl (ev_Const rfl) (binR rfl)) (xs_cons (xv_If (tv_Bool (test_go (tv_Cmp rfl (ev_Name rfl) (ev_Const rfl) (cmpR rfl)) rfl (test_go (tv_Cmp rfl (ev_Name rfl) (ev_Name rfl) (cmp_ieqF (by rw[hj]; trivial))) rfl test_nil))) xs_nil) xs_nil))) (xs_cons (xv_If (tv_Cmp rfl (ev_Name rfl) (ev_Const rfl) (cmpR rfl)) xs_nil) xs_nil)
  | tx x =>
   obtain ⟨H',a1,a2,a3,a4⟩:=ih (j:=j) (se:=se) (H:=H) hj hw hi (by trivial)
   refine ⟨H',a1,a2,a3,PtR.go (fb rfl ?_) hi.symm a4⟩
   exact xs_cons (xv_If (tv_Cmp rfl (ev_Idx rfl (ev_Name rfl) (ev_Const rfl) rfl) (ev_Const rfl) (cmpR rfl)) xs_nil) (xs_cons (xv_If (tv_Cmp rfl (ev_Name rfl) (ev_Const rfl) (cmpR rfl)) xs_nil) xs_nil)
  | en m =>
   obtain ⟨H',a1,a2,a3,a4⟩:=ih (j:=j) (se:=se) (H:=H) hj hw hi (by trivial)
   refine ⟨H',a1,a2,a3,PtR.go (fb rfl ?_) hi.symm a4⟩
   exact xs_cons (xv_If (tv_Cmp rfl (ev_Idx rfl (ev_Name rfl) (ev_Const rfl) rfl) (ev_Const rfl) (cmpR rfl)) xs_nil) (xs_cons (xv_If (tv_Cmp rfl (ev_Name rfl) (ev_Const rfl) (cmpR rfl)) xs_nil) xs_nil)
theorem t_part{k i j:Nat}{H:Hp}{E:EL}(hi:i<H.n)(hE:H.f i = .list (E.map evV))(hl:E.length≤1000):
  ∃ H',H'.f H.n = .list ((skipG j E).map evV)∧(∀ i,i<H.n→H'.f i=H.f i)∧H'.n=H.n+1∧Ev (pe3 P sa is) (k+50) (.c (.fn 189) [.ref i,.int j] [] H) (.v (.ref H.n) H'):=by
 have hne:i≠H.n:=Nat.ne_of_lt hi
 obtain ⟨H',a1,a2,a3,a4⟩:=skip_loop (P:=P) (sa:=sa) (is:=is) (k:=k+8) (i:=i) (w:=H.n) (pl:=j) (H0:=H.alloc (.list [])) (j:=j) (se := -1) (H:=H.alloc (.list [])) hne (E:=E) (by trivial) alloc_eq rfl hl
 have hit:items (H.alloc (.list [])) (.ref i)=some (E.map evV,some i):=items_ref ((alloc_lt hi).trans hE)
 refine ⟨H',a1,fun q hq=>(a2 q (Nat.ne_of_lt hq)).trans (alloc_lt hq),a3,?_⟩
 rcases a4 with ⟨l,h⟩ | ⟨a,c,x,h⟩
 ·exact c_fn (init_none (by decide)) (run_fn (fn_part P sa is) .part body_part nm_part (xs_cons (xv_Asg rfl (fun ι=>rfl) (ev_List evL_nil (leR rfl) rfl) (asgs_one rfl (asg_Name rfl))) (xs_cons (xv_Asg rfl (fun ι=>rfl) (ev_Neg (ev_Const rfl)) (asgs_one rfl (asg_Name rfl))) (xs_cons (xv_Asg rfl (fun ι=>rfl) (ev_Const rfl) (asgs_one rfl (asg_Name rfl))) (xs_stop (xv_For rfl (ev_Name rfl) hit h) rfl)))) rfl)
 ·exact c_fn (init_none (by decide)) (run_fn (fn_part P sa is) .part body_part nm_part (xs_cons (xv_Asg rfl (fun ι=>rfl) (ev_List evL_nil (leR rfl) rfl) (asgs_one rfl (asg_Name rfl))) (xs_cons (xv_Asg rfl (fun ι=>rfl) (ev_Neg (ev_Const rfl)) (asgs_one rfl (asg_Name rfl))) (xs_cons (xv_Asg rfl (fun ι=>rfl) (ev_Const rfl) (asgs_one rfl (asg_Name rfl))) (xs_cons (xv_For rfl (ev_Name rfl) hit h) (xs_forget lk_app (xs_stop (xv_Ret (ev_Name rfl)) rfl)))))) rfl)
end
section
open PySem.Builtin PySem.Builtin.Str in
theorem str_ext{a b:Str}(h:a.cps.toList=b.cps.toList):a=b:=by
 cases a; cases b; exact congrArg Str.mk (Array.toList_inj.mp h)
theorem slice_mid(a m b:Str):Txt.slice (a++m++b) (some a.length) (some (a.length+m.length))=m:=by
 have e:(a++m++b).cps.toList=a.cps.toList++(m.cps.toList++b.cps.toList):=by rw[Str.cps_append,Str.cps_append,Array.toList_append,Array.toList_append,List.append_assoc]
 have h:=slice_closes (x:=a++m++b) (i:=a.length) (j:=a.length+m.length) ⟨by trivial,by trivial,by rw[← strLen,sLen,sLen]; trivial⟩
 rw[eq_of_beq h]
 refine str_ext ?_
 show ((a++m++b).cps.toList.drop _).take _=_
 rw[e,show ((a.length:Int).toNat)=a.cps.toList.length by rw[strLen]; trivial,List.drop_left,show ((a.length:Int)+m.length-a.length).toNat=m.cps.toList.length by rw[strLen m]; trivial,List.take_left]
end
theorem glue_cons(c:Nat)(a:Str)(r:List Str)(h:r≠[]):(Str.join ⟨#[c]⟩ (a::r)).cps.toList=a.cps.toList++c::(Str.join ⟨#[c]⟩ r).cps.toList:=by
 cases r with
 | nil=>exact absurd rfl h
 | cons b r =>
  show (a++⟨#[c]⟩++Str.join ⟨#[c]⟩ (b::r)).cps.toList=_
  rw[Str.cps_append,Str.cps_append,Array.toList_append,Array.toList_append,List.append_assoc]; rfl
theorem free_eq{c:Nat}{a b r s:List Nat}(ha:c∉a)(hb:c∉b)(e:a++c::r=b++c::s):a=b∧r=s:=by
 induction a generalizing b with
 | nil=>cases b with
  | nil=>exact ⟨rfl,(List.cons.inj e).2⟩
  | cons y b=>exact absurd (by rw[(List.cons.inj e).1]; exact .head _) hb
 | cons x a ih=>cases b with
  | nil=>exact absurd (by rw[← (List.cons.inj e).1]; exact .head _) ha
  | cons y b =>
   obtain ⟨e1,e2⟩:=List.cons.inj e
   obtain ⟨e3,e4⟩:=ih (fun q=>ha (.tail _ q)) (fun q=>hb (.tail _ q)) e2
   exact ⟨by rw[e1,e3],e4⟩
theorem glue_inj{c:Nat}{ps:List Str}:∀ {qs:List Str},ps≠[]→qs≠[]→(∀ p∈ps,c∉p.cps.toList)→(∀ q∈qs,c∉q.cps.toList)→(Str.join ⟨#[c]⟩ ps).cps.toList=(Str.join ⟨#[c]⟩ qs).cps.toList→ps=qs:=by
 induction ps with
 | nil=>exact fun h=>absurd rfl h
 | cons a r ih =>
  intro qs _ h2 hp hq e
  cases qs with
  | nil=>exact absurd rfl h2
  | cons b s =>
   have ha:=hp a (.head _)
   have hb:=hq b (.head _)
   by_cases hr:r=[]
   ·by_cases hs:s=[]
    ·subst hr; subst hs
     have e':a.cps.toList=b.cps.toList:=e
     rw[str_ext e']
    ·subst hr
     rw[glue_cons c b s hs] at e
     have e':a.cps.toList=_:=e
     exact absurd (by rw[e']; exact List.mem_append_right _ (.head _)) ha
   ·by_cases hs:s=[]
    ·subst hs
     rw[glue_cons c a r hr] at e
     have e':_=b.cps.toList:=e
     exact absurd (by rw[← e']; exact List.mem_append_right _ (.head _)) hb
    ·rw[glue_cons c a r hr,glue_cons c b s hs] at e
     obtain ⟨e1,e2⟩:=free_eq ha hb e
     rw[str_ext e1,ih hr hs (fun p h=>hp p (.tail _ h)) (fun p h=>hq p (.tail _ h)) e2]
theorem split_ne(x y:Str):Txt.split x y≠[]:=by
 unfold Txt.split
 by_cases h:(decide (x.length<y.length)||decide (PySem.Builtin.Str.strKind x<PySem.Builtin.Str.strKind y))=true
 ·rw[if_pos h]; exact fun q=>nomatch q
 ·rw[if_neg h]
  by_cases h':(PySem.Builtin.Str.occurrences x y 0 x.length (x.length+1)).isEmpty=true
  ·rw[if_pos h']; exact fun q=>nomatch q
  ·rw[if_neg h',StrLaws.partsBetween_eq]
   obtain ⟨p,r,e⟩:=StrLaws.partsFrom_ne x y.length 0 (PySem.Builtin.Str.occurrences x y 0 x.length (x.length+1))
   rw[e]; exact fun q=>nomatch q
theorem split_parts{c:Nat}{x:Str}{ps:List Str}(h0:ps≠[])(hf:∀ p∈ps,c∉p.cps.toList)(e:(Str.join ⟨#[c]⟩ ps).cps.toList=x.cps.toList):Txt.split x ⟨#[c]⟩=ps :=
 glue_inj (split_ne _ _) h0 (StrLaws.split_free x c) hf (by rw[StrLaws.join_split,e])
theorem split_app{c:Nat}{a r:Str}(ha:c∉a.cps.toList):Txt.split (a++(⟨#[c]⟩++r)) ⟨#[c]⟩=a::Txt.split r ⟨#[c]⟩:=by
 refine split_parts (fun q=>nomatch q) (fun p hp => ?_) ?_
 ·rcases List.mem_cons.mp hp with rfl | hp
  ·exact ha
  ·exact StrLaws.split_free r c p hp
 ·rw[glue_cons _ _ _ (split_ne _ _),StrLaws.join_split,Str.cps_append,Str.cps_append,Array.toList_append,Array.toList_append]; rfl
theorem split_one{c:Nat}{a:Str}(ha:c∉a.cps.toList):Txt.split a ⟨#[c]⟩=[a] :=
 split_parts (fun q=>nomatch q) (fun p hp=>by rw[List.mem_singleton.mp hp]; exact ha) rfl
theorem slice_at{x a m b:Str}{i j:Int}(e:x=a++m++b)(hi:i=a.length)(hj:j=a.length+m.length):Txt.slice x (some i) (some j)=m:=by
 subst e; subst hi; subst hj; exact slice_mid a m b
theorem slice_from{x a b:Str}{i:Int}(e:x=a++b)(hi:i=a.length):Txt.slice x (some i) none=b:=by
 have h1:Txt.slice x (some i) none=Txt.slice x (some i) (some (x.length:Int)):=by
  unfold Txt.slice
  rw[StrLaws.sliceIdx_none_hi]
 rw[h1]
 exact slice_at (a:=a) (m:=b) (b:=Str.empty) (by rw[Str.append_empty]; exact e) hi (by rw[e,sLen]; trivial)
theorem slice_to{x a b:Str}{j:Int}(e:x=a++b)(hj:j=a.length):Txt.slice x none (some j)=a:=by
 have h1:Txt.slice x none (some j)=Txt.slice x (some 0) (some j):=by
  unfold Txt.slice
  rw[StrLaws.sliceIdx_none_lo]
 rw[h1]
 exact slice_at (a:=Str.empty) (m:=a) (b:=b) (by rw[Str.empty_append]; exact e) rfl (by rw[hj]; exact (Int.zero_add _).symm)
section
theorem cutV_tail(x:V)(r:List V):cutV (x::r) (some 1) none none=r:=by
 have e:sliceRange (sliceBounds (some 1) none none (x::r).length).1 (sliceBounds (some 1) none none (x::r).length).2.1 (sliceBounds (some 1) none none (x::r).length).2.2=(List.range r.length).map fun k=>1+k:=by
  unfold sliceBounds sliceRange
  simp only[Option.getD_none,List.length_cons]
  simp only[show ((1:Int)>0)=True from by simp,if_true]
  have e1:max (0:Int) (min (if (1:Int)<0 then 1+((r.length+1:Nat):Int) else 1) ((r.length+1:Nat):Int))=1:=by
   rw[if_neg (by decide)]; trivial
  rw[e1]
  have e2:(if (1:Int)<((r.length+1:Nat):Int) then (((r.length+1:Nat):Int)-1+1-1)/1 else 0).toNat=r.length:=by
   by_cases h:(1:Int)<((r.length+1:Nat):Int)
   ·rw[if_pos h,Int.ediv_one]; trivial
   ·rw[if_neg h]; trivial
  rw[e2]
  refine List.map_congr_left fun k ι => ?_
  trivial
 unfold cutV
 rw[e,StrLaws.picks (x::r) r.length 1 (by rw[List.length_cons]; trivial)]
 exact List.take_length
section
variable {pe:Pe} {n:Nat} {sc:Sc} {loc:Loc} {H:Hp} {target:Expr} {src:Option Nat} {em:Em} {gens:List Comprehension} {ifs:List Expr}
theorem cl_filter{α:Type}{v:α→V}{c:α→Bool}{xs:List α}(h:∀ x∈xs,∃ loc',bindT sc H target (v x) loc=some loc'∧Ev pe n (.ifs sc loc' ifs H) (.b (c x) H)∧Ev pe n (.inn sc em gens loc' H) (.l [v x] H))(hs:stands H H src):Ev pe n (.cl sc em gens target ifs loc src H (xs.map v) H) (.l ((xs.filter c).map v) H):=by
 induction xs with
 | nil=>exact .cl_nil
 | cons x xs ih =>
  obtain ⟨l,a,b,d⟩:=h x (.head _)
  have ih:=ih fun y hy=>h y (.tail _ hy)
  rw[List.map_cons]
  cases e:c x with
  | true=>rw[List.filter_cons_of_pos e]; rw[e] at b; exact .cl_cons a b d hs ih
  | false=>rw[List.filter_cons_of_neg (by rw[e]; exact Bool.false_ne_true)]; rw[e] at b; exact .cl_skip a b hs ih
end
theorem tl_app(a b:Str):(a++b).cps.toList=a.cps.toList++b.cps.toList:=by rw[Str.cps_append,Array.toList_append]
theorem catL(l:List Str):(cat l).cps.toList=l.flatMap fun s=>s.cps.toList:=by
 induction l with
 | nil=>rfl
 | cons x r ih=>rw[List.flatMap_cons,← ih]; exact tl_app x (cat r)
variable {P:Params} {sa:Addr} {is:List Int}
theorem escC_list(x:Str):(escC x).cps.toList=x.cps.toList.flatMap (tabC (lst psC)):=by
 show (chn psC x).cps.toList=_
 rw[chn_list,subs_flat rfl]
theorem lk_mem{β:Type}{k:Nat}{v:β}{l:List (Nat×β)}(h:l.lookup k=some v):(k,v)∈l:=by
 induction l with
 | nil=>exact noS h
 | cons p l ih =>
  rw[List.lookup_cons] at h
  cases e:k==p.1 with
  | true=>rw[e] at h; rw[beq_iff_eq.mp e,← Option.some.inj h]; exact .head _
  | false=>rw[e] at h; exact .tail _ (ih h)
theorem tab_in{k c:Nat}(h:c∈tabC (lst psC) k):c≠60∧c≠62:=by
 have hl:∀ p∈lst psC,p.2.all (fun c => !(Nat.beq c 60) && !(Nat.beq c 62))=true:=List.all_eq_true.mp (by decide+kernel)
 have ok:∀ {p:Nat×List Nat},p∈lst psC→c∈p.2→c≠60∧c≠62:=fun hp hc=>by
  have:=List.all_eq_true.mp (hl _ hp) c hc
  obtain ⟨a,b⟩:=Bool.and_eq_true_iff.mp this
  refine ⟨fun q => ?_,fun q => ?_⟩
  ·rw[q] at a; exact noB (show false=true from a)
  ·rw[q] at b; exact noB (show false=true from b)
 unfold tabC at h
 cases e:(lst psC).lookup k with
 | some v =>
  rw[e] at h
  exact ok (lk_mem e) h
 | none =>
  rw[e] at h
  have hk:c=k:=List.mem_singleton.mp h
  subst hk
  refine ⟨fun q => ?_,fun q => ?_⟩
  ·subst q; exact noS (show none=some _ from e.symm)
  ·subst q; exact noS (show none=some _ from e.symm)
theorem escC_free(x:Str):60∉(escC x).cps.toList∧62∉(escC x).cps.toList:=by
 rw[escC_list]
 refine ⟨fun q => ?_,fun q => ?_⟩
 ·obtain ⟨k,_,h⟩:=List.mem_flatMap.mp q
  exact (tab_in h).1 rfl
 ·obtain ⟨k,_,h⟩:=List.mem_flatMap.mp q
  exact (tab_in h).2 rfl
noncomputable def labN(x:Str):Str:=if Txt.contains x ":"=true then "xmlns:"++(Txt.split x ":").headD Str.empty else "xmlns"
noncomputable def sc_lab:Sc:=[("name",.local)]
theorem nm_lab:(fdAt (hd.heap_39 P) 196).scope.names=sc_lab:=by kernel_rfl
theorem body_lab:(fdAt (hd.heap_39 P) 196).body = .stmts (bodyAt (hd.heap_39 P) 196):=by kernel_rfl
noncomputable def NmS(x:Str):Prop:=x.length≤1000∧Ex2_2 (fun a r=>Txt.split x ":"=a::r) (fun a r=>a.length≤1000)
theorem lab_run{k:Nat}{x:Str}(h:NmS x):∃ H1:Hp,H1.f 0=H0.f 0∧Ev (pe3 P sa is) (k+20) (.c (.fn 196) [.str x] [] H0) (.v (.str (labN x)) H1):=by
 obtain ⟨hx,a,r,hs,ha⟩:=h
 by_cases hc:Txt.contains x ":"=true
 ·have e:labN x="xmlns:"++a:=by
   unfold labN
   rw[if_pos hc,hs]; rfl
  rw[e]
  refine ⟨H0.alloc (.list ((Txt.split x ":").map .str)),rfl,?_⟩
  have hit:index (H0.alloc (.list ((Txt.split x ":").map .str))) (.ref 1) (.int 0)=some (.str a):=(idx_list (i:=1) (xs:=(Txt.split x ":").map .str) rfl).trans (by rw[hs]; rfl)
  have hin:Cmp H0 .In (.str ":") (.str x) true:=hc ▸ .inn .str
  exact c_fn (init_none (by decide)) (run_fn (fn_label P sa is) .label body_lab nm_lab (xs_stop (xv_Ret (ev_If (tv_Cmp rfl (ev_Const rfl) (ev_Name rfl) hin) (ev_Bin (ev_Const rfl) (ev_Idx rfl (ev_CallA rfl rfl (by decide) (ev_Name rfl) rfl rfl (evL_cons rfl (ev_Const rfl) evL_nil) evKw_nil (c_bm (pv_split1 ⟨by decide,toLim (by trivial)⟩ rfl))) (ev_Const rfl) hit) (.addS (toLim (by show 6+a.length≤_; trivial)))))) rfl) rfl)
 ·have e:labN x="xmlns":=by
   unfold labN
   rw[if_neg hc]
  rw[e]
  have hin:Cmp H0 .In (.str ":") (.str x) false:=(Bool.eq_false_iff.mpr hc) ▸ .inn .str
  exact ⟨H0,rfl,c_fn (init_none (by decide)) (run_fn (fn_label P sa is) .label body_lab nm_lab (xs_stop (xv_Ret (ev_If (tv_Cmp rfl (ev_Const rfl) (ev_Name rfl) hin) (ev_Const rfl))) rfl) rfl)⟩
theorem t_lab{k:Nat}{x:Str}{H:Hp}(h:NmS x)(h0:H.f 0=H0.f 0)(hn:0<H.n):Ev (pe3 P sa is) (k+20) (.c (.fn 196) [.str x] [] H) (.v (.str (labN x)) H):=by
 obtain ⟨H1,h1,ev⟩:=lab_run (P:=P) (sa:=sa) (is:=is) (k:=k) h
 exact Ev.frame ev rfl rfl h1 h0 hn
end
section
variable {P:Params} {sa:Addr} {is:List Int}
noncomputable def sc_cut:Sc:=[("whole",.local),("place",.local),("tokens",.local),("said",.cell),("token",.local),("item",.local),("out",.local),("around",.cell),("seen",.local),("head",.local),("text",.local),("name",.local),("plain",.local),("used",.local),("key",.local),("new",.local),("len",.globalImplicit),("_law_label",.globalImplicit),("sorted",.globalImplicit)]
theorem nm_cut:(fdAt (hd.heap_39 P) 201).scope.names=sc_cut:=by kernel_rfl
theorem body_cut:(fdAt (hd.heap_39 P) 201).body = .stmts (bodyAt (hd.heap_39 P) 201):=by kernel_rfl
structure Hd where
 tok:Str
 hd:Str
 text:Str
 st:Bool
 name:Str
 decl:List (Str×Str)
 plain:List (Str×Str)
noncomputable def KeyOk(p:Str×Str):Prop:=(∃ r,Txt.split p.2 "="=p.1::r)∧p.2.length≤1000
structure HdOk (h:Hd):Prop where
 lt:h.tok.length≤1000000
 lh:h.hd.length≤1000000
 gt:∃ r,Txt.split h.tok ">"=h.hd::r
 tx:Txt.slice h.tok (some (h.hd.length+1)) none=h.text
 sl:(Txt.slice h.hd none (some 1)=="/") = !h.st
 sp:Txt.split h.hd " "=h.name::(h.decl++h.plain).map (·.2)
 key:∀ p∈h.decl++h.plain,KeyOk p
 de:∀ p∈h.decl,Txt.startswith p.2 "xmlns"=true
 pl:∀ p∈h.plain,Txt.startswith p.2 "xmlns"=false∧NmS p.1
 nm:NmS h.name
 few:(h.decl++h.plain).length≤50
 p4:h.plain.length≤4
 lx:h.text.length≤1000000
noncomputable def saidIt(d:Loc)(p:Str×Str):Loc:=if Txt.startswith p.2 "xmlns"=true then setL d p.1 (.str p.2) else d
noncomputable def saidL(d:Loc)(l:List (Str×Str)):Loc:=l.foldl saidIt d
noncomputable def saidT(d:Loc)(T:List Hd):Loc:=T.foldl (fun d h=>saidL d (h.decl++h.plain)) d
theorem setL_len{l:Loc}{x:Str}{v:V}:(setL l x v).length≤l.length+1:=by
 induction l with
 | nil=>exact Nat.le_refl _
 | cons p l ih =>
  by_cases h:p.1=x
  ·have e:setL (p::l) x v=(x,v)::l:=if_pos h
   rw[e]; exact Nat.le_succ _
  ·have e:setL (p::l) x v=p::setL l x v:=if_neg h
   rw[e]; exact Nat.succ_le_succ ih
theorem saidIt_len{d:Loc}{p:Str×Str}:(saidIt d p).length≤d.length+1:=by
 unfold saidIt
 by_cases h:Txt.startswith p.2 "xmlns"=true
 ·rw[if_pos h]; exact setL_len
 ·rw[if_neg h]; exact Nat.le_succ _
theorem saidL_len{l:List (Str×Str)}:∀ {d:Loc},(saidL d l).length≤d.length+l.length:=by
 induction l with
 | nil=>exact fun {d}=>Nat.le_refl _
 | cons p l ih =>
  intro d
  have h1:=ih (d:=saidIt d p)
  have h2:=saidIt_len (d:=d) (p:=p)
  show (saidL (saidIt d p) l).length≤d.length+(l.length+1)
  trivial
noncomputable abbrev locC(w:Str)(pl:Int):Loc:=[("whole",.str w),("place",.int pl),("tokens",.ref 2),("said",.ref 3)]
noncomputable abbrev tC1(P:Params):Expr:=forT (bodyAt (hd.heap_39 P) 201)[2]?
noncomputable abbrev bC1(P:Params):List Stmt:=forB (bodyAt (hd.heap_39 P) 201)[2]?
noncomputable abbrev tC2(P:Params):Expr:=forT (bC1 P)[0]?
noncomputable abbrev bC2(P:Params):List Stmt:=forB (bC1 P)[0]?
theorem said_in{k v:Nat}{w tok:Str}{pl:Int}{Hs:Hp}(hv:3<v){l:List (Str×Str)}:∀ {d:Loc} {H:Hp},(∀ p∈l,KeyOk p)→v<H.n→H.f 3 = .dict d→Hs.f v=H.f v→d.length+l.length≤100000 →
  Ex2_4 (fun H' ex=>H'.f 3 = .dict (saidL d l)) (fun H' ex=>H.n≤H'.n) (fun H' ex=>(∀ j,j<H.n→j≠3→H'.f j=H.f j)) (fun H' ex=>Ev (pe3 P sa is) (k+40) (.for sc_cut (tC2 P) (bC2 P) (some v) Hs (l.map fun p=>V.str p.2) (locC w pl++([("token",.str tok)]:Loc)) H) (.f .next (locC w pl++([("token",.str tok)]:Loc)++ex) H')):=by
 induction l with
 | nil=>exact fun {d H} ι ι h3 ι ι=>⟨H,[],h3,Nat.le_refl _,fun ι ι ι=>rfl,for_nil⟩
 | cons p l ih =>
  intro d H hk hn h3 hs hl
  rw[List.length_cons] at hl
  obtain ⟨⟨r,hr⟩,hp⟩:=hk p (.head _)
  have hlen:=saidIt_len (d:=d) (p:=p)
  by_cases h:Txt.startswith p.2 "xmlns"=true
  ·let H1:=H.alloc (.list ((Txt.split p.2 "=").map .str))
   let H2:=H1.put 3 (.dict (setL d p.1 (.str p.2)))
   have e:saidIt d p=setL d p.1 (.str p.2):=if_pos h
   have low:∀ j,j<H.n→j≠3→H2.f j=H.f j:=fun j hj h3=>(put_ne h3).trans (alloc_lt hj)
   obtain ⟨H',ex,a1,a2,a3,a4⟩:=ih (d:=saidIt d p) (H:=H2) (fun q hq=>hk q (.tail _ hq)) (Nat.lt_succ_of_lt hn) (put_eq.trans (by rw[e])) (hs.trans (low v hn (by trivial)).symm) (by trivial)
   refine ⟨H',ex,a1,Nat.le_trans (Nat.le_succ _) a2,fun j hj hj3=>(a3 j (Nat.lt_succ_of_lt hj) hj3).trans (low j hj hj3),?_⟩
   have hix:index H1 (.ref H.n) (.int 0)=some (.str p.1):=(idx_list (xs:=(Txt.split p.2 "=").map .str) alloc_eq).trans (by rw[hr]; rfl)
   have hput:putD H1 3 p.1 (.str p.2) (H1.f 3)=some H2:=by
    have e3:H1.f 3 = .dict d:=(alloc_lt (by trivial)).trans h3
    rw[e3]; exact if_pos (ltLim (by trivial))
   have hst:Prm H .tStarts (.str p.2) [.str "xmlns"] (.bool true) H:=h▸pv_starts
   exact for_go (fl := .next) (H1:=H2) (loc2:=locC w pl++([("token",.str tok)]:Loc)++([("item",.str p.2)]:Loc)) (fb rfl (xs_cons (xv_If (tv_Gen rfl (ev_CallA rfl rfl (by decide) (ev_Name rfl) rfl rfl (evL_cons rfl (ev_Const rfl) evL_nil) evKw_nil (c_bm hst)) rfl) (xs_cons (xv_Asg rfl (fun ι=>rfl) (ev_Name rfl) (asgs_one rfl (asg_Sub (ev_Name rfl) (ev_Idx rfl (ev_CallA rfl rfl (by decide) (ev_Name rfl) rfl rfl (evL_cons rfl (ev_Const rfl) evL_nil) evKw_nil (c_bm (pv_split1 ⟨by decide,toLim (by trivial)⟩ rfl))) (ev_Const rfl) hix) hput))) xs_nil)) xs_nil)) rfl (for_forget lk_app a4) ((low v hn (by trivial)).trans hs.symm)
  ·have e:saidIt d p=d:=if_neg h
   obtain ⟨H',ex,a1,a2,a3,a4⟩:=ih (d:=saidIt d p) (H:=H) (fun q hq=>hk q (.tail _ hq)) hn (by rw[e]; exact h3) hs (by trivial)
   refine ⟨H',ex,a1,a2,a3,?_⟩
   have hst:Prm H .tStarts (.str p.2) [.str "xmlns"] (.bool false) H:=(Bool.eq_false_iff.mpr h)▸pv_starts
   exact for_go (fl := .next) (H1:=H) (loc2:=locC w pl++([("token",.str tok)]:Loc)++([("item",.str p.2)]:Loc)) (fb rfl (xs_cons (xv_If (tv_Gen rfl (ev_CallA rfl rfl (by decide) (ev_Name rfl) rfl rfl (evL_cons rfl (ev_Const rfl) evL_nil) evKw_nil (c_bm hst)) rfl) xs_nil) xs_nil)) rfl (for_forget lk_app a4) hs.symm
theorem said_loop{k:Nat}{w:Str}{pl:Int}{Hs:Hp}{T:List Hd}:∀ {d:Loc} {H:Hp},(∀ h∈T,HdOk h)→3<H.n→H.f 3 = .dict d→Hs.f 2=H.f 2→d.length+T.length*50≤100000 →
  Ex2_4 (fun H' ex=>H'.f 3 = .dict (saidT d T)) (fun H' ex=>H.n≤H'.n) (fun H' ex=>(∀ j,j<H.n→j≠3→H'.f j=H.f j)) (fun H' ex=>Ev (pe3 P sa is) (k+60) (.for sc_cut (tC1 P) (bC1 P) (some 2) Hs (T.map fun h=>V.str h.tok) (locC w pl) H) (.f .next (locC w pl++ex) H')):=by
 induction T with
 | nil=>exact fun {d H} ι ι h3 ι ι=>⟨H,[],h3,Nat.le_refl _,fun ι ι ι=>rfl,for_nil⟩
 | cons h T ih =>
  intro d H hk hn h3 hs hl
  rw[List.length_cons,Nat.add_mul] at hl
  have O:=hk h (.head _)
  obtain ⟨r,hr⟩:=O.gt
  let H1:=H.alloc (.list ((Txt.split h.tok ">").map .str))
  let H2:=H1.alloc (.list ((Txt.split h.hd " ").map .str))
  let H3:=H2.alloc (.list ((h.decl++h.plain).map fun p=>V.str p.2))
  have n1:H1.n=H.n+1:=rfl
  have n2:H2.n=H.n+2:=rfl
  have n3:H3.n=H.n+3:=rfl
  have low:∀ j,j<H.n→H3.f j=H.f j:=fun j hj=>(alloc_lt (by trivial)).trans ((alloc_lt (by trivial)).trans (alloc_lt hj))
  have few:=O.few
  obtain ⟨H4,ex4,a1,a2,a3,a4⟩:=said_in (P:=P) (sa:=sa) (is:=is) (k:=k+19) (w:=w) (tok:=h.tok) (pl:=pl) (Hs:=H3) (v:=H2.n) (by trivial) (l:=h.decl++h.plain) (d:=d) (H:=H3) O.key (by trivial) ((low 3 hn).trans h3) rfl (by trivial)
  have low4:∀ j,j<H.n→j≠3→H4.f j=H.f j:=fun j hj hj3=>(a3 j (by trivial) hj3).trans (low j hj)
  have hl4:=saidL_len (l:=h.decl++h.plain) (d:=d)
  obtain ⟨H',ex,b1,b2,b3,b4⟩:=ih (d:=saidL d (h.decl++h.plain)) (H:=H4) (fun q hq=>hk q (.tail _ hq)) (by trivial) a1 (hs.trans (low4 2 (by trivial) (by decide)).symm) (by trivial)
  refine ⟨H',ex,b1,by trivial,fun j hj hj3=>(b3 j (by trivial) hj3).trans (low4 j hj hj3),?_⟩
  have hix:index H1 (.ref H.n) (.int 0)=some (.str h.hd):=(idx_list (xs:=(Txt.split h.tok ">").map .str) alloc_eq).trans (by rw[hr]; rfl)
  have hsl:Slc (pe3 P sa is) H2 (.ref H1.n) (some 1) none none (.ref H2.n) H3:=by
   have e:cutV ((Txt.split h.hd " ").map .str) (some 1) none none=(h.decl++h.plain).map fun p=>V.str p.2:=by
    rw[O.sp,List.map_cons,cutV_tail,List.map_map]; rfl
   refine .list (xs:=(Txt.split h.hd " ").map .str) alloc_eq (by decide) ?_ (by rw[e])
   rw[O.sp,List.length_map,List.length_cons,List.length_map]; exact toLim (by trivial)
  have lt:=O.lt
  have lh:=O.lh
  exact for_go (fl := .next) (H1:=H4) (loc2:=locC w pl++(("token",.str h.tok)::ex4:Loc)) (fb rfl (xs_cons (xv_For rfl (ev_Slice (ev_CallA rfl rfl (by decide) (ev_Idx rfl (ev_CallA rfl rfl (by decide) (ev_Name rfl) rfl rfl (evL_cons rfl (ev_Const rfl) evL_nil) evKw_nil (c_bm (pv_split1 ⟨by decide,toLim (by trivial)⟩ rfl))) (ev_Const rfl) hix) rfl rfl (evL_cons rfl (ev_Const rfl) evL_nil) evKw_nil (c_bm (pv_split1 ⟨by decide,toLim (by trivial)⟩ rfl))) (opt_some (ev_Const rfl)) opt_none opt_none hsl) (items_ref alloc_eq) a4) xs_nil)) rfl (for_forget lk_app b4) ((low4 2 (by trivial) (by decide)).trans hs.symm)
end
section
variable {P:Params} {sa:Addr} {is:List Int}
noncomputable abbrev tM(P:Params):Expr:=forT (bodyAt (hd.heap_39 P) 201)[6]?
noncomputable abbrev bM(P:Params):List Stmt:=forB (bodyAt (hd.heap_39 P) 201)[6]?
noncomputable abbrev bA(P:Params):List Stmt:=ifB (ifB (bM P)[2]?)[1]?
noncomputable abbrev tU(P:Params):Expr:=forT (bA P)[3]?
noncomputable abbrev bU(P:Params):List Stmt:=forB (bA P)[3]?
noncomputable abbrev locM(w:Str)(pl:Int)(o:Nat)(se:Int):Loc:=locC w pl++([("out",.ref o),("around",.ref (o+1)),("seen",.int se)]:Loc)
noncomputable abbrev locU(w:Str)(pl:Int)(o:Nat)(se:Int)(h:Hd)(p u:Nat):Loc:=locM w pl o se++([("token",.str h.tok),("head",.str h.hd),("text",.str h.text),("name",.str h.name),("plain",.ref p),("used",.ref u)]:Loc)
noncomputable def usedIt(U:List Str)(p:Str×Str):List Str:=if Txt.contains p.1 ":"=true then if (Txt.slice p.1 none (some 4)=="xml:")=true then U else if U.contains (labN p.1)=true then U else U++[labN p.1] else U
noncomputable def usedL(h:Hd):List Str:=h.plain.foldl usedIt [labN h.name]
theorem glob_lab:(pe3 P sa is).glob "_law_label"=some (.fn 196):=by kernel_rfl
theorem usedIt_len{U:List Str}{p:Str×Str}:(usedIt U p).length≤U.length+1:=by
 unfold usedIt
 by_cases h1:Txt.contains p.1 ":"=true
 ·rw[if_pos h1]
  by_cases h2:(Txt.slice p.1 none (some 4)=="xml:")=true
  ·rw[if_pos h2]; exact Nat.le_succ _
  ·rw[if_neg h2]
   by_cases h3:U.contains (labN p.1)=true
   ·rw[if_pos h3]; exact Nat.le_succ _
   ·rw[if_neg h3,List.length_append]; exact Nat.le_refl _
 ·rw[if_neg h1]; exact Nat.le_succ _
theorem nin_of{H:Hp}{x:Str}{i:Nat}{U:List Str}{b:Bool}(h:H.f i = .list (U.map .str))(hb:U.contains x=b):Cmp H .NotIn (.str x) (.ref i) (!b):=hb ▸ .nin (.lstr h (strsOf_map U))
theorem used_loop{k v u:Nat}{w:Str}{pl:Int}{o:Nat}{se:Int}{h:Hd}{pp:Nat}{Hs:Hp}(hvu:v≠u){l:List (Str×Str)}:∀ {U:List Str} {H:Hp},(∀ p∈l,KeyOk p∧NmS p.1)→0<u→v<H.n→u<H.n→H.f 0=H0.f 0→H.f u = .list (U.map .str)→Hs.f v=H.f v→U.length+l.length≤1000 →
  Ex2_4 (fun H' ex=>H'.f u = .list ((l.foldl usedIt U).map .str)) (fun H' ex=>H.n≤H'.n) (fun H' ex=>(∀ j,j<H.n→j≠u→H'.f j=H.f j)) (fun H' ex=>Ev (pe3 P sa is) (k+40) (.for sc_cut (tU P) (bU P) (some v) Hs (l.map fun p=>V.str p.2) (locU w pl o se h pp u) H) (.f .next (locU w pl o se h pp u++ex) H')):=by
 induction l with
 | nil=>exact fun {U H} ι ι ι ι ι h3 ι ι=>⟨H,[],h3,Nat.le_refl _,fun ι ι ι=>rfl,for_nil⟩
 | cons p l ih =>
  intro U H hk hu0 hv hu h0 hU hs hl
  rw[List.length_cons] at hl
  obtain ⟨⟨⟨r,hr⟩,hp⟩,hN⟩:=hk p (.head _)
  let H1:=H.alloc (.list ((Txt.split p.2 "=").map .str))
  have n1:H1.n=H.n+1:=rfl
  have low1:∀ j,j<H.n→H1.f j=H.f j:=fun j hj=>alloc_lt hj
  have U1:H1.f u = .list (U.map .str):=(low1 u hu).trans hU
  have z1:H1.f 0=H0.f 0:=(low1 0 (by trivial)).trans h0
  have hix:index H1 (.ref H.n) (.int 0)=some (.str p.1):=(idx_list (xs:=(Txt.split p.2 "=").map .str) alloc_eq).trans (by rw[hr]; rfl)
  have hlen:=usedIt_len (U:=U) (p:=p)
  have s1:Ev (pe3 P sa is) (k+40) (.x sc_cut ((bU P).headD (.Pass ⟨0,0,0,0⟩)) (locU w pl o se h pp u++([("item",.str p.2)]:Loc)) H) (.f .next (locU w pl o se h pp u++([("item",.str p.2),("key",.str p.1)]:Loc)) H1) :=
   xv_Asg rfl (fun ι=>rfl) (ev_Idx rfl (ev_CallA rfl rfl (by decide) (ev_Name rfl) rfl rfl (evL_cons rfl (ev_Const rfl) evL_nil) evKw_nil (c_bm (pv_split1 ⟨by decide,toLim (by trivial)⟩ rfl))) (ev_Const rfl) hix) (asgs_one rfl (asg_Name rfl))
  have same:usedIt U p=U→Ev (pe3 P sa is) (k+40) (.xs sc_cut (bU P).tail (locU w pl o se h pp u++([("item",.str p.2),("key",.str p.1)]:Loc)) H1) (.f .next (locU w pl o se h pp u++([("item",.str p.2),("key",.str p.1)]:Loc)) H1) →
    Ex2_4 (fun H' ex=>H'.f u = .list (((p::l).foldl usedIt U).map .str)) (fun H' ex=>H.n≤H'.n) (fun H' ex=>(∀ j,j<H.n→j≠u→H'.f j=H.f j)) (fun H' ex=>Ev (pe3 P sa is) (k+40) (.for sc_cut (tU P) (bU P) (some v) Hs ((p::l).map fun p=>V.str p.2) (locU w pl o se h pp u) H) (.f .next (locU w pl o se h pp u++ex) H')):=fun e ev=>by
   obtain ⟨H',ex,a1,a2,a3,a4⟩:=ih (U:=usedIt U p) (H:=H1) (fun q hq=>hk q (.tail _ hq)) hu0 (by trivial) (by trivial) z1 (by rw[e]; exact U1) (hs.trans (low1 v hv).symm) (by trivial)
   exact ⟨H',ex,a1,by trivial,fun j hj hju=>(a3 j (by trivial) hju).trans (low1 j hj),for_go (fl := .next) (H1:=H1) (loc2:=locU w pl o se h pp u++([("item",.str p.2),("key",.str p.1)]:Loc)) (fb rfl (xs_cons s1 ev)) rfl (for_forget lk_app a4) ((low1 v hv).trans hs.symm)⟩
  have kl:p.1.length≤1000:=hN.1
  have hsl:Slc (pe3 P sa is) H1 (.str p.1) none (some 4) none (.str (Txt.slice p.1 none (some 4))) H1 := .str (toLim (by trivial))
  by_cases c1:Txt.contains p.1 ":"=true
  ·have i1:Cmp H1 .In (.str ":") (.str p.1) true:=c1 ▸ .inn .str
   by_cases c2:(Txt.slice p.1 none (some 4)=="xml:")=true
   ·have i2:Cmp H1 .NotEq (.str (Txt.slice p.1 none (some 4))) (.str "xml:") false:=by
     have:=Cmp.ne (H:=H1) (EqV.str (x:=Txt.slice p.1 none (some 4)) (y:="xml:"))
     rwa [c2] at this
    exact same (by unfold usedIt; rw[if_pos c1,if_pos c2]) (xs_cons (xv_If (tv_Bool (test_go (tv_Cmp rfl (ev_Const rfl) (ev_Name rfl) i1) rfl (test_stop (tv_Cmp rfl (ev_Slice (ev_Name rfl) opt_none (opt_some (ev_Const rfl)) opt_none hsl) (ev_Const rfl) i2) rfl))) xs_nil) xs_nil)
   ·have c2':(Txt.slice p.1 none (some 4)=="xml:")=false:=Bool.eq_false_iff.mpr c2
    have i2:Cmp H1 .NotEq (.str (Txt.slice p.1 none (some 4))) (.str "xml:") true:=by
     have:=Cmp.ne (H:=H1) (EqV.str (x:=Txt.slice p.1 none (some 4)) (y:="xml:"))
     rwa [c2'] at this
    by_cases c3:U.contains (labN p.1)=true
    ·exact same (by unfold usedIt; rw[if_pos c1,if_neg c2,if_pos c3]) (xs_cons (xv_If (tv_Bool (test_go (tv_Cmp rfl (ev_Const rfl) (ev_Name rfl) i1) rfl (test_go (tv_Cmp rfl (ev_Slice (ev_Name rfl) opt_none (opt_some (ev_Const rfl)) opt_none hsl) (ev_Const rfl) i2) rfl (test_stop (tv_Cmp rfl (ev_CallN (lk_glob (by decide) rfl glob_lab) (ca_fn (fn_label P sa is)) (evL_cons rfl (ev_Name rfl) evL_nil) evKw_nil (t_lab (k:=k+16) hN z1 (by trivial))) (ev_Name rfl) (nin_of U1 c3)) rfl)))) xs_nil) xs_nil)
    ·have c3':U.contains (labN p.1)=false:=Bool.eq_false_iff.mpr c3
     let H2:=H1.put u (.list (U.map .str++[.str (labN p.1)]))
     have e:usedIt U p=U++[labN p.1]:=by unfold usedIt; rw[if_pos c1,if_neg c2,if_neg c3]
     have low2:∀ j,j<H.n→j≠u→H2.f j=H.f j:=fun j hj hju=>(put_ne hju).trans (low1 j hj)
     obtain ⟨H',ex,a1,a2,a3,a4⟩:=ih (U:=usedIt U p) (H:=H2) (fun q hq=>hk q (.tail _ hq)) hu0 (Nat.lt_succ_of_lt hv) (Nat.lt_succ_of_lt hu) ((low2 0 (by trivial) (by trivial)).trans h0) (put_eq.trans (by rw[e,List.map_append]; rfl)) (hs.trans (low2 v hv hvu).symm) (by trivial)
     refine ⟨H',ex,a1,Nat.le_trans (Nat.le_succ _) a2,fun j hj hju=>(a3 j (Nat.lt_succ_of_lt hj) hju).trans (low2 j hj hju),?_⟩
     exact for_go (fl := .next) (H1:=H2) (loc2:=locU w pl o se h pp u++([("item",.str p.2),("key",.str p.1)]:Loc)) (fb rfl (xs_cons s1 (xs_cons (xv_If (tv_Bool (test_go (tv_Cmp rfl (ev_Const rfl) (ev_Name rfl) i1) rfl (test_go (tv_Cmp rfl (ev_Slice (ev_Name rfl) opt_none (opt_some (ev_Const rfl)) opt_none hsl) (ev_Const rfl) i2) rfl (test_go (tv_Cmp rfl (ev_CallN (lk_glob (by decide) rfl glob_lab) (ca_fn (fn_label P sa is)) (evL_cons rfl (ev_Name rfl) evL_nil) evKw_nil (t_lab (k:=k+16) hN z1 (by trivial))) (ev_Name rfl) (nin_of U1 c3')) rfl test_nil)))) (xs_cons (xv_Expr rfl (ev_CallA rfl rfl (by decide) (ev_Name rfl) (attr_list U1 rfl) rfl (evL_cons rfl (ev_CallN (lk_glob (by decide) rfl glob_lab) (ca_fn (fn_label P sa is)) (evL_cons rfl (ev_Name rfl) evL_nil) evKw_nil (t_lab (k:=k+16) hN z1 (by trivial))) evL_nil) evKw_nil (c_bm (pv_append U1 (by rw[List.length_map]; exact ltLim (by trivial)) rfl)))) xs_nil)) xs_nil))) rfl (for_forget lk_app a4) ((low2 v hv hvu).trans hs.symm)
  ·have i1:Cmp H1 .In (.str ":") (.str p.1) false:=(Bool.eq_false_iff.mpr c1) ▸ .inn .str
   exact same (by unfold usedIt; rw[if_neg c1]) (xs_cons (xv_If (tv_Bool (test_stop (tv_Cmp rfl (ev_Const rfl) (ev_Name rfl) i1) rfl)) xs_nil) xs_nil)
end
section
variable {P:Params} {sa:Addr} {is:List Int}
noncomputable def ncE(o:Option Stmt):Expr:=(ev1 (arg1 (sO o).1)).1
noncomputable def ncT(o:Option Stmt):Expr:=(ev1 (arg1 (sO o).1)).2.2.head?.elim e0 (·.target)
noncomputable def ncI(o:Option Stmt):List Expr:=(ev1 (arg1 (sO o).1)).2.2.head?.elim [] (·.ifs)
noncomputable def sc_new:Sc:=[(".0",.local),("label",.cell),("around",.free)]
noncomputable abbrev sN(P:Params):Option Stmt:=(bA P)[4]?
noncomputable def newQ(ar:List (Nat×List Str))(x:Str):Bool:=ar.all fun p => !(p.2.contains x)
theorem emp_new{ar:List (Nat×List Str)}{x:Str}:((ar.filter fun p=>p.2.contains x).map fun p=>V.ref p.1).isEmpty=newQ ar x:=by
 induction ar with
 | nil=>rfl
 | cons p ar ih =>
  have e:newQ (p::ar) x=(!(p.2.contains x)&&newQ ar x):=rfl
  cases h:p.2.contains x with
  | true=>rw[List.filter_cons_of_pos (p:=fun p:Nat×List Str=>p.2.contains x) h,e,h]; rfl
  | false=>rw[List.filter_cons_of_neg (p:=fun p:Nat×List Str=>p.2.contains x) (by rw[h]; exact Bool.false_ne_true),e,h]; exact ih
structure LvH (H:Hp) (a:Nat) (ar:List (Nat×List Str)):Prop where
 at':H.f a = .list (ar.map fun p => .ref p.1)
 lv:∀ p∈ar,a<p.1∧p.1<H.n∧H.f p.1 = .list (p.2.map .str)
 len:ar.length≤1000
 lt:a<H.n
theorem LvH.up{H H':Hp}{a:Nat}{ar:List (Nat×List Str)}(L:LvH H a ar)(hn:H.n≤H'.n)(h:∀ j,j<H.n→a≤j→H'.f j=H.f j):LvH H' a ar :=
 ⟨(h a L.lt (Nat.le_refl _)).trans L.at',fun p hp=>let ⟨h1,h2,h3⟩:=L.lv p hp; ⟨h1,by trivial,(h p.1 h2 (by trivial)).trans h3⟩,L.len,by have:=L.lt; trivial⟩
theorem new_cl{k v a:Nat}{Hs:Hp}{ar:List (Nat×List Str)}{xs:List Str}:∀ {H:Hp},LvH H a ar→v<H.n→Hs.f v=H.f v →
  ∃ H',(∀ j,j<H.n→H'.f j=H.f j)∧H.n≤H'.n∧Ev (pe3 P sa is) (k+30) (.cl sc_new (.el (ncE (sN P))) [] (ncT (sN P)) (ncI (sN P)) [("around",.ref a)] (some v) Hs (xs.map .str) H) (.l ((xs.filter (newQ ar)).map .str) H'):=by
 induction xs with
 | nil=>exact fun {H} ι ι ι=>⟨H,fun ι ι=>rfl,Nat.le_refl _,cl_nil⟩
 | cons x xs ih =>
  intro H L hv hs
  let H1:=H.alloc (.list ((ar.filter fun p=>p.2.contains x).map fun p=>V.ref p.1))
  let H2:=H1.alloc (.list [])
  have n1:H1.n=H.n+1:=rfl
  have n2:H2.n=H.n+2:=rfl
  have low:∀ j,j<H.n→H2.f j=H.f j:=fun j hj=>(alloc_lt (by trivial)).trans (alloc_lt hj)
  obtain ⟨H',a1,a2,a3⟩:=ih (H:=H2) (L.up (by trivial) fun j hj ι=>low j hj) (by trivial) (hs.trans (low v hv).symm)
  have lv:=L.lv
  have hin:Ev (pe3 P sa is) (k+30) (.ifs sc_new [("around",.ref a),("label",.str x)] (ncI (sN P)) H) (.b (newQ ar x) H2):=by
   have hl:((ar.filter fun p=>p.2.contains x).map fun p=>V.ref p.1).length≤lim:=by
    rw[List.length_map]
    exact Nat.le_trans (List.length_filter_le _ _) (toLim (by have:=L.len; trivial))
   have hc:Cmp H2 .Eq (.ref H.n) (.ref H1.n) (newQ ar x):=by
    rw[← emp_new]
    exact .eq (.list0 ((alloc_lt (by trivial)).trans alloc_eq) alloc_eq)
   exact ifs_one (tv_Cmp rfl (ev_Comp (ev_LC rfl rfl (ev_Name rfl) (items_ref L.at') rfl (cl_filter (v:=fun p:Nat×List Str=>V.ref p.1) (c:=fun p=>p.2.contains x) (fun p hp=>⟨_,rfl,ifs_one (tv_Cmp rfl (ev_Name rfl) (ev_Name rfl) (.inn (.lstr (lv p hp).2.2 (strsOf_map _)))),in_el (ev_Name rfl)⟩) rfl) hl rfl)) (ev_List evL_nil (leR rfl) rfl) hc)
  have hst:stands Hs H2 (some v):=(low v hv).trans hs.symm
  refine ⟨H',fun j hj=>(a1 j (by trivial)).trans (low j hj),by trivial,?_⟩
  cases h:newQ ar x with
  | true =>
   rw[h] at hin
   rw[List.filter_cons_of_pos h]
   exact cl_cons rfl hin (in_el (ev_Name rfl)) hst a3
  | false =>
   rw[h] at hin
   rw[List.filter_cons_of_neg (by rw[h]; exact Bool.false_ne_true)]
   exact cl_skip rfl hin hst a3
end
section
variable {P:Params} {sa:Addr} {is:List Int}
noncomputable def sortS(xs:List Str):List Str:=srt Str.empty (fun a c=>ltPair (.str a) (.str c)) xs
theorem sort_strs{xs:List Str}(h5:xs.length≤5):SortV (xs.map .str) ((sortS xs).map .str) :=
 ⟨.inr (List.all_eq_true.mpr fun v hv=>by obtain ⟨a,_,rfl⟩:=List.mem_map.mp hv; rfl),by rw[List.length_map]; exact h5,srt_map h5⟩
theorem sortS_mem{xs:List Str}(h5:xs.length≤5):(∀ x∈sortS xs,x∈xs)∧(sortS xs).length=xs.length:=by
 unfold sortS srt
 by_cases h2:xs.length<2
 ·rw[if_pos h2]; exact ⟨fun ι h=>h,rfl⟩
 rw[if_neg h2]
 obtain ⟨g1,g2⟩:=srtP_ok (d:=Str.empty) (lt:=fun a c=>ltPair (.str a) (.str c)) (xs:=xs) ⟨Nat.le_of_not_lt h2,h5⟩
 refine ⟨fun p hp => ?_,by rw[List.length_map]; exact g1⟩
 obtain ⟨i,hi,rfl⟩:=List.mem_map.mp hp
 have hl:=g2 i hi
 rw[List.getD_eq_getElem?_getD,List.getElem?_eq_getElem hl]; exact List.getElem_mem hl
noncomputable def newL(ar:List (Nat×List Str))(h:Hd):List Str:=sortS ((usedL h).filter (newQ ar))
noncomputable def sayG(d:Loc)(x:Str):Str:=match d.lookup x with
 | some (.str y)=>y
 | _=>x
noncomputable def SaidS(d:Loc):Prop:=∀ x v,d.lookup x=some v→∃ y,v = .str y∧y.length≤2000
theorem say_get{d:Loc}(hd:SaidS d)(x:Str):(d.lookup x).getD (.str x) = .str (sayG d x)∧(x.length≤2000→(sayG d x).length≤2000):=by
 unfold sayG
 cases e:d.lookup x with
 | none=>exact ⟨rfl,id⟩
 | some v =>
  obtain ⟨y,rfl,hy⟩:=hd x v e
  exact ⟨rfl,fun ι=>hy⟩
noncomputable def rowS(d:Loc)(h:Hd)(nw:List Str):List Str:=([h.name]++nw.map (sayG d))++h.plain.map (·.2)
noncomputable def piS(d:Loc)(h:Hd)(nw:List Str):Str:="<"++Txt.join " " (rowS d h nw)++">"++h.text
theorem fold_le{l:List Str}{s:Str}{c:Nat}(h:∀ x∈l,x.length≤c):∀ a:Nat,l.foldl (fun n x=>n+x.length+s.length) a≤a+l.length*(c+s.length):=by
 induction l with
 | nil=>exact fun a=>Nat.le_add_right _ _
 | cons x l ih =>
  intro a
  have h1:=ih (fun y hy=>h y (.tail _ hy)) (a+x.length+s.length)
  have h2:=h x (.head _)
  show l.foldl _ (a+x.length+s.length)≤a+(l.length+1)*(c+s.length)
  rw[Nat.add_mul,Nat.one_mul]
  trivial
theorem joinOk1{l:List Str}{s:Str}(h:∀ x∈l,x.length≤2000)(hl:l.length≤100)(hs:s.length≤1):JoinOk s l=true:=by
 unfold JoinOk
 have h1:=fold_le (s:=s) h 0
 have h2:l.length*(2000+s.length)≤100*(2000+1):=Nat.mul_le_mul hl (Nat.add_le_add_left hs _)
 have e2:l.toArray.foldl (fun n x=>n+x.length+s.length) 0≤200100:=by
  rw[List.foldl_toArray]; trivial
 exact (Bool.not_eq_true' _).mpr (decide_eq_false (Nat.not_lt.mpr (Nat.le_trans e2 (by decide))))
theorem join_len{l:List Str}{s:Str}(h:∀ x∈l,x.length≤2000):(Str.join s l).length≤l.length*(2000+s.length):=by
 induction l with
 | nil=>exact Nat.zero_le _
 | cons x l ih =>
  have h2:=h x (.head _)
  cases l with
  | nil =>
   show x.length≤1*_
   trivial
  | cons y r =>
   have h1:=ih fun z hz=>h z (.tail _ hz)
   show (x++s++Str.join s (y::r)).length≤((y::r).length+1)*(2000+s.length)
   rw[sLen,sLen,Nat.add_mul,Nat.one_mul]
   trivial
structure CutI (H:Hp) (d:Loc) (o:Nat) (ou:List Str) (ar:List (Nat×List Str)):Prop where
 z:H.f 0=H0.f 0
 sd:H.f 3 = .dict d
 o3:3<o
 out:H.f o = .list (ou.map .str)
 lv:LvH H (o+1) ar
 ol:ou.length≤10000
theorem filt_pl{h:Hd}(O:HdOk h):(h.decl++h.plain).filter (fun p => !(Txt.startswith p.2 "xmlns"))=h.plain:=by
 rw[List.filter_append]
 have e1:h.decl.filter (fun p => !(Txt.startswith p.2 "xmlns"))=[]:=List.filter_eq_nil_iff.mpr fun p hp=>by
  rw[O.de p hp]; exact Bool.false_ne_true
 have e2:h.plain.filter (fun p => !(Txt.startswith p.2 "xmlns"))=h.plain:=List.filter_eq_self.mpr fun p hp=>by
  rw[(O.pl p hp).1]; rfl
 rw[e1,e2]; rfl
theorem labN_len{x:Str}(h:NmS x):(labN x).length≤2000:=by
 obtain ⟨_,a,r,hs,ha⟩:=h
 unfold labN
 by_cases hc:Txt.contains x ":"=true
 ·rw[if_pos hc,hs]
  show ("xmlns:"++a:Str).length≤_
  rw[sLen]
  show 6+_≤_
  trivial
 ·rw[if_neg hc]; exact leR rfl
theorem usedF_ok{l:List (Str×Str)}:∀ {U:List Str},(∀ x∈U,x.length≤2000)→(∀ p∈l,NmS p.1)→(l.foldl usedIt U).length≤U.length+l.length∧∀ x∈l.foldl usedIt U,x.length≤2000:=by
 induction l with
 | nil=>exact fun {U} h ι=>⟨Nat.le_refl _,h⟩
 | cons p l ih =>
  intro U h hk
  have h1:=usedIt_len (U:=U) (p:=p)
  have h2:∀ x∈usedIt U p,x.length≤2000:=fun x hx=>by
   unfold usedIt at hx
   by_cases c1:Txt.contains p.1 ":"=true
   ·rw[if_pos c1] at hx
    by_cases c2:(Txt.slice p.1 none (some 4)=="xml:")=true
    ·rw[if_pos c2] at hx; exact h x hx
    ·rw[if_neg c2] at hx
     by_cases c3:U.contains (labN p.1)=true
     ·rw[if_pos c3] at hx; exact h x hx
     ·rw[if_neg c3] at hx
      rcases List.mem_append.mp hx with hx | hx
      ·exact h x hx
      ·rw[List.mem_singleton.mp hx]; exact labN_len (hk p (.head _))
   ·rw[if_neg c1] at hx; exact h x hx
  obtain ⟨i1,i2⟩:=ih h2 fun q hq=>hk q (.tail _ hq)
  exact ⟨by show (l.foldl usedIt (usedIt U p)).length≤U.length+(l.length+1); trivial,i2⟩
theorem used_ok{h:Hd}(O:HdOk h):(usedL h).length≤5∧∀ x∈usedL h,x.length≤2000:=by
 obtain ⟨i1,i2⟩:=usedF_ok (l:=h.plain) (U:=[labN h.name]) (fun x hx=>by rw[List.mem_singleton.mp hx]; exact labN_len O.nm) fun p hp=>(O.pl p hp).2
 have:=O.p4
 exact ⟨by show (h.plain.foldl usedIt [labN h.name]).length≤5; simp only[List.length_singleton] at i1; trivial,i2⟩
theorem newL_ok{ar:List (Nat×List Str)}{h:Hd}(O:HdOk h):((usedL h).filter (newQ ar)).length≤5∧(newL ar h).length≤5∧∀ x∈newL ar h,x.length≤2000:=by
 obtain ⟨u1,u2⟩:=used_ok O
 have h5:((usedL h).filter (newQ ar)).length≤5:=Nat.le_trans (List.length_filter_le _ _) u1
 obtain ⟨m1,m2⟩:=sortS_mem h5
 exact ⟨h5,m2.symm▸h5,fun x hx=>u2 x (List.mem_filter.mp (m1 x hx)).1⟩
theorem row_ok{d:Loc}(hd:SaidS d){ar:List (Nat×List Str)}{h:Hd}(O:HdOk h):(rowS d h (newL ar h)).length≤10∧∀ x∈rowS d h (newL ar h),x.length≤2000:=by
 obtain ⟨_,n1,n2⟩:=newL_ok (ar:=ar) O
 have h4:=O.p4
 refine ⟨?_,fun x hx => ?_⟩
 ·unfold rowS
  rw[List.length_append,List.length_append,List.length_map,List.length_map]
  show 1+_+_≤_
  trivial
 ·rcases List.mem_append.mp hx with hx | hx
  ·rcases List.mem_cons.mp (show x∈h.name::(newL ar h).map (sayG d) from hx) with rfl | hx
   ·exact Nat.le_trans O.nm.1 (by decide)
   ·obtain ⟨y,hy,rfl⟩:=List.mem_map.mp hx
    exact (say_get hd y).2 (n2 y hy)
  ·obtain ⟨p,hp,rfl⟩:=List.mem_map.mp hx
   exact Nat.le_trans (O.key p (List.mem_append_right _ hp)).2 (by decide)
end
section
variable {P:Params} {sa:Addr} {is:List Int}
noncomputable abbrev locH(w:Str)(pl:Int)(o:Nat)(se:Int)(h:Hd):Loc:=locM w pl o se++([("token",.str h.tok),("head",.str h.hd),("text",.str h.text)]:Loc)
theorem t_body{k:Nat}{w:Str}{pl:Int}{o:Nat}{se:Int}{h:Hd}{H:Hp}{d:Loc}{ou:List Str}{ar:List (Nat×List Str)}(O:HdOk h)(I:CutI H d o ou ar)(hd:SaidS d)(har:ar.length≤900)(hou:ou.length<10000):
  Ex3_4 (fun H' ex nid=>CutI H' d o (ou++[piS d h (newL ar h)]) (ar++[(nid,newL ar h)])) (fun H' ex nid=>H.n≤H'.n) (fun H' ex nid=>(∀ j,j<H.n→j≠o→j≠o+1→H'.f j=H.f j)) (fun H' ex nid=>Ev (pe3 P sa is) (k+70) (.xs sc_cut (bA P) (locH w pl o se h) H) (.f .next (locM w pl o se++ex) H')):=by
 have ho3:=I.o3
 have hln:=I.lv.lt
 obtain ⟨c5,c5',c6⟩:=newL_ok (ar:=ar) O
 obtain ⟨r1,r2⟩:=row_ok hd (ar:=ar) O
 obtain ⟨u1,u2⟩:=used_ok O
 have lh:=O.lh
 have lx:=O.lx
 have few:=O.few
 have p4:=O.p4
 let nw:=newL ar h
 let A1:=H.alloc (.list ((Txt.split h.hd " ").map .str))
 let A2:=A1.alloc (.list ((Txt.split h.hd " ").map .str))
 let A3:=A2.alloc (.list ((h.decl++h.plain).map fun p=>V.str p.2))
 let A4:=A3.alloc (.list (h.plain.map fun p=>V.str p.2))
 let A5:=A4.alloc (.list [.str (labN h.name)])
 have n1:A1.n=H.n+1:=rfl
 have n2:A2.n=H.n+2:=rfl
 have n3:A3.n=H.n+3:=rfl
 have n4:A4.n=H.n+4:=rfl
 have n5:A5.n=H.n+5:=rfl
 have low4:∀ j,j<H.n→A4.f j=H.f j:=fun j hj=>(alloc_lt (by trivial)).trans ((alloc_lt (by trivial)).trans ((alloc_lt (by trivial)).trans (alloc_lt hj)))
 have low5:∀ j,j<H.n→A5.f j=H.f j:=fun j hj=>(alloc_lt (by trivial)).trans (low4 j hj)
 have p5:A5.f (H.n+3) = .list (h.plain.map fun p=>V.str p.2):=(alloc_lt (show H.n+3<A4.n by trivial)).trans alloc_eq
 obtain ⟨A6,ex6,a1,a2,a3,a4⟩:=used_loop (P:=P) (sa:=sa) (is:=is) (k:=k+29) (v:=H.n+3) (u:=H.n+4) (w:=w) (pl:=pl) (o:=o) (se:=se) (h:=h) (pp:=H.n+3) (Hs:=A5) (by trivial) (l:=h.plain) (U:=[labN h.name]) (H:=A5) (fun p hp=>⟨O.key p (List.mem_append_right _ hp),(O.pl p hp).2⟩) (by trivial) (by trivial) (by trivial) ((low5 0 (by trivial)).trans I.z) alloc_eq rfl (by show 1+_≤_; trivial)
 have low6:∀ j,j<H.n→A6.f j=H.f j:=fun j hj=>(a3 j (by trivial) (by trivial)).trans (low5 j hj)
 have p6:A6.f (H.n+3) = .list (h.plain.map fun p=>V.str p.2):=(a3 _ (by trivial) (by trivial)).trans p5
 obtain ⟨A7,b1,b2,b3⟩:=new_cl (P:=P) (sa:=sa) (is:=is) (k:=k+37) (v:=H.n+4) (a:=o+1) (Hs:=A6) (ar:=ar) (xs:=usedL h) (H:=A6) (I.lv.up (by trivial) fun j hj ι=>low6 j hj) (by trivial) rfl
 let A8:=A7.alloc (.list (((usedL h).filter (newQ ar)).map .str))
 let A9:=A8.alloc (.list (nw.map .str))
 have n8:A8.n=A7.n+1:=rfl
 have n9:A9.n=A7.n+2:=rfl
 have low9:∀ j,j<A6.n→A9.f j=A6.f j:=fun j hj=>(alloc_lt (by trivial)).trans ((alloc_lt (by trivial)).trans (b1 j hj))
 let A10:=A9.put (o+1) (.list ((ar.map fun p=>V.ref p.1)++[.ref A8.n]))
 let A11:=A10.alloc (.list [.str h.name])
 let A12:=A11.alloc (.list (nw.map fun x=>V.str (sayG d x)))
 let A13:=A12.alloc (.list ([.str h.name]++nw.map fun x=>V.str (sayG d x)))
 let A14:=A13.alloc (.list (([.str h.name]++nw.map fun x=>V.str (sayG d x))++h.plain.map fun p=>V.str p.2))
 let A15:=A14.put o (.list (ou.map .str++[.str (piS d h nw)]))
 have n10:A10.n=A7.n+2:=rfl
 have n11:A11.n=A7.n+3:=rfl
 have n12:A12.n=A7.n+4:=rfl
 have n13:A13.n=A7.n+5:=rfl
 have n14:A14.n=A7.n+6:=rfl
 have n15:A15.n=A7.n+6:=rfl
 have low11:∀ j,j<A9.n→j≠o+1→A11.f j=A9.f j:=fun j hj hne=>(alloc_lt (by trivial)).trans (put_ne hne)
 have low13:∀ j,j<A9.n→j≠o+1→A13.f j=A9.f j:=fun j hj hne=>(alloc_lt (by trivial)).trans ((alloc_lt (by trivial)).trans (low11 j hj hne))
 have low14:∀ j,j<A9.n→j≠o+1→A14.f j=A9.f j:=fun j hj hne=>(alloc_lt (by trivial)).trans (low13 j hj hne)
 have keep:∀ j,j<H.n→j≠o→j≠o+1→A15.f j=H.f j:=fun j hj h1 h2=>(put_ne h1).trans ((low14 j (by trivial) h2).trans ((low9 j (by trivial)).trans (low6 j hj)))
 have a9:A9.f (o+1) = .list (ar.map fun p=>V.ref p.1):=(low9 _ (by trivial)).trans ((low6 _ hln).trans I.lv.at')
 have nid9:A9.f A8.n = .list (nw.map .str):=alloc_eq
 have nid11:A11.f A8.n = .list (nw.map .str):=(low11 _ (by trivial) (by trivial)).trans nid9
 have sd11:A11.f 3 = .dict d:=(low11 _ (by trivial) (by trivial)).trans ((low9 _ (by trivial)).trans ((low6 _ (by trivial)).trans I.sd))
 have pl13:A13.f (H.n+3) = .list (h.plain.map fun p=>V.str p.2):=(low13 _ (by trivial) (by trivial)).trans ((low9 _ (by trivial)).trans p6)
 have ou14:A14.f o = .list (ou.map .str):=(low14 _ (by trivial) (by trivial)).trans ((low9 _ (by trivial)).trans ((low6 _ (by trivial)).trans I.out))
 have row:(([V.str h.name]++nw.map fun x=>V.str (sayG d x))++h.plain.map fun p=>V.str p.2)=(rowS d h nw).map .str:=by
  unfold rowS
  rw[List.map_append,List.map_append,List.map_map,List.map_map]; rfl
 have hjn:Prm A14 .tJoin (.str " ") [.ref A13.n] (.str (Txt.join " " (rowS d h nw))) A14:=by
  have:=pv_join (H:=A14) (i:=A13.n) (x:=" ") (xs:=(rowS d h nw).map .str) (l:=rowS d h nw) (alloc_eq.trans (by rw[row])) (strsOf_map _) (joinOk1 r2 (by show (rowS d h (newL ar h)).length≤_; trivial) (leR rfl))
  exact this
 have jl:(Txt.join " " (rowS d h nw)).length≤20010:=by
  rw[show Txt.join " " (rowS d h nw)=Str.join " " (rowS d h nw) from StrLaws.glued_eq_join _ _]
  have h1:=join_len (s:=" ") (l:=rowS d h nw) r2
  have h2:(rowS d h nw).length*(2000+(" ":Str).length)≤10*(2000+1):=Nat.mul_le_mul r1 (Nat.le_refl _)
  trivial
 have l2:("<"++Txt.join " " (rowS d h nw):Str).length=1+(Txt.join " " (rowS d h nw)).length:=sLen _ _
 have l3:("<"++Txt.join " " (rowS d h nw)++">":Str).length=1+(Txt.join " " (rowS d h nw)).length+1:=by rw[sLen,l2]; rfl
 refine ⟨A15,([("token",.str h.tok),("head",.str h.hd),("text",.str h.text),("name",.str h.name),("plain",.ref (H.n+3)),("used",.ref (H.n+4)),("new",.ref A8.n)]:Loc),A8.n,⟨(keep 0 (by trivial) (by trivial) (by trivial)).trans I.z,(keep 3 (by trivial) (by trivial) (by trivial)).trans I.sd,ho3,put_eq.trans (by rw[List.map_append]; rfl),⟨?_,fun p hp => ?_,by rw[List.length_append]; show _+1≤_; trivial,by trivial⟩,by rw[List.length_append]; exact hou⟩,by trivial,keep,?_⟩
 ·refine (put_ne (by trivial)).trans ((alloc_lt (by trivial)).trans ((alloc_lt (by trivial)).trans ((alloc_lt (by trivial)).trans ((alloc_lt (by trivial)).trans (put_eq.trans ?_)))))
  rw[List.map_append]; rfl
 ·rcases List.mem_append.mp hp with hp | hp
  ·obtain ⟨q1,q2,q3⟩:=I.lv.lv p hp
   exact ⟨q1,by trivial,(keep p.1 q2 (by trivial) (by trivial)).trans q3⟩
  ·rw[List.mem_singleton.mp hp]
   exact ⟨by show o+1<A8.n; trivial,by show A8.n<A15.n; trivial,(put_ne (by show A8.n≠o; trivial)).trans ((low14 _ (by trivial) (by show A8.n≠o+1; trivial)).trans nid9)⟩
 have hix:index A1 (.ref H.n) (.int 0)=some (.str h.name):=(idx_list (xs:=(Txt.split h.hd " ").map .str) alloc_eq).trans (by rw[O.sp]; rfl)
 have hsl:Slc (pe3 P sa is) A2 (.ref A1.n) (some 1) none none (.ref A2.n) A3:=by
  have e:cutV ((Txt.split h.hd " ").map .str) (some 1) none none=(h.decl++h.plain).map fun p=>V.str p.2:=by
   rw[O.sp,List.map_cons,cutV_tail,List.map_map]; rfl
  refine .list (xs:=(Txt.split h.hd " ").map .str) alloc_eq (by decide) ?_ (by rw[e])
  rw[O.sp,List.length_map,List.length_cons,List.length_map]; exact toLim (by trivial)
 have hpl:((h.decl++h.plain).filter (fun p => !(Txt.startswith p.2 "xmlns"))).map (fun p=>V.str p.2)=h.plain.map fun p=>V.str p.2:=by rw[filt_pl O]
 have hz4:A4.f 0=H0.f 0:=(low4 0 (by trivial)).trans I.z
 have hget:∀ x,Prm A11 .dGet (.ref 3) [.str x,.str x] (.str (sayG d x)) A11:=fun x=>by
  have:=pv_get2 (H:=A11) (k:=x) (d := .str x) sd11
  rwa [(say_get hd x).1] at this
 have nm12:A12.f A10.n = .list [.str h.name]:=(alloc_lt (show A10.n<A11.n by trivial)).trans alloc_eq
 have ng12:A12.f A11.n = .list (nw.map fun x=>V.str (sayG d x)):=alloc_eq
 have c5q:nw.length≤5:=c5'
 have hl12:([V.str h.name]:List V).length+(nw.map fun x=>V.str (sayG d x)).length≤lim:=by
  rw[List.length_map]
  exact toLim (by show 1+nw.length≤_; trivial)
 have hl13:([V.str h.name]++nw.map fun x=>V.str (sayG d x)).length+(h.plain.map fun p=>V.str p.2).length≤lim:=by
  rw[List.length_append,List.length_map,List.length_map]
  exact toLim (by show 1+nw.length+_≤_; trivial)
 exact xs_cons (xv_Asg rfl (fun ι=>rfl) (ev_Idx rfl (ev_CallA rfl rfl (by decide) (ev_Name rfl) rfl rfl (evL_cons rfl (ev_Const rfl) evL_nil) evKw_nil (c_bm (pv_split1 ⟨by decide,toLim (by trivial)⟩ rfl))) (ev_Const rfl) hix) (asgs_one rfl (asg_Name rfl)))
  (xs_cons (xv_AsgC rfl (ev_LC rfl rfl (ev_Slice (ev_CallA rfl rfl (by decide) (ev_Name rfl) rfl rfl (evL_cons rfl (ev_Const rfl) evL_nil) evKw_nil (c_bm (pv_split1 ⟨by decide,toLim (by trivial)⟩ rfl))) (opt_some (ev_Const rfl)) opt_none opt_none hsl) (items_ref alloc_eq) rfl (cl_filter (v:=fun p:Str×Str=>V.str p.2) (c:=fun p => !(Txt.startswith p.2 "xmlns")) (fun p ι=>⟨_,rfl,ifs_one (tv_Not (tv_Gen rfl (ev_CallA rfl rfl (by decide) (ev_Name rfl) rfl rfl (evL_cons rfl (ev_Const rfl) evL_nil) evKw_nil (c_bm pv_starts)) rfl)),in_el (ev_Name rfl)⟩) rfl) (by rw[hpl,List.length_map]; exact toLim (by trivial)) (by rw[hpl])) (asgs_one rfl (asg_Name rfl)))
  (xs_cons (xv_Asg rfl (fun ι=>rfl) (ev_List (evL_cons rfl (ev_CallN (lk_glob (by decide) rfl glob_lab) (ca_fn (fn_label P sa is)) (evL_cons rfl (ev_Name rfl) evL_nil) evKw_nil (t_lab (k:=k+47) O.nm hz4 (by trivial))) evL_nil) (leR rfl) rfl) (asgs_one rfl (asg_Name rfl)))
  (xs_cons (xv_For rfl (ev_Name rfl) (items_ref p5) a4)
  (xs_forget lk_app
  (xs_cons (xv_Asg rfl (fun ι=>rfl) (ev_CallN (lk_glob (by decide) rfl glob_sorted) rfl (evL_cons rfl (ev_Comp (ev_LC rfl rfl (ev_Name rfl) (items_ref a1) rfl b3 (by rw[List.length_map]; exact toLim (by trivial)) rfl)) evL_nil) evKw_nil (c_bf (fv_sortedL alloc_eq (sort_strs c5) rfl))) (asgs_one rfl (asg_Name rfl)))
  (xs_cons (xv_Expr rfl (ev_CallA rfl rfl (by decide) (ev_Name rfl) (attr_list a9 rfl) rfl (evL_cons rfl (ev_Name rfl) evL_nil) evKw_nil (c_bm (pv_append a9 (by rw[List.length_map]; exact ltLim (by trivial)) rfl))))
  (xs_cons (xv_Expr rfl (ev_CallA rfl rfl (by decide) (ev_Name rfl) (attr_list ((low9 _ (by trivial)).trans ((low6 _ (by trivial)).trans I.out) |> fun e=>(put_ne (by trivial)).trans e) rfl) rfl (evL_cons rfl (ev_Bin (ev_Bin (ev_Bin (ev_Const rfl) (ev_CallA rfl rfl (by decide) (ev_Const rfl) rfl rfl (evL_cons rfl (ev_Bin (ev_Bin (ev_List (evL_cons rfl (ev_Name rfl) evL_nil) (leR rfl) rfl) (ev_Comp (ev_LC rfl rfl (ev_Name rfl) (items_ref nid11) rfl (cl_map (f:=V.str) (g:=fun x=>V.str (sayG d x)) stands_refl fun x ι=>⟨_,rfl,ifs_nil,in_el (ev_CallA rfl rfl (by decide) (ev_Name rfl) (attr_dict sd11 rfl) rfl (evL_cons rfl (ev_Name rfl) (evL_cons rfl (ev_Name rfl) evL_nil)) evKw_nil (c_bm (hget x)))⟩) (by rw[List.length_map]; exact toLim (by show (newL ar h).length≤_; trivial)) rfl)) (.addL nm12 ng12 hl12 rfl)) (ev_Name rfl) (.addL alloc_eq pl13 hl13 rfl)) evL_nil) evKw_nil (c_bm hjn)) (.addS (toLim (by show 1+(Txt.join " " (rowS d h nw)).length≤_; trivial)))) (ev_Const rfl) (.addS (toLim (by rw[l2]; show _+1≤_; trivial)))) (ev_Name rfl) (.addS (toLim (by rw[l3]; trivial)))) evL_nil) evKw_nil (c_bm (pv_append ou14 (by rw[List.length_map]; exact ltLim (by trivial)) rfl)))) xs_nil)))))))
end
section
variable {P:Params} {sa:Addr} {is:List Int}
noncomputable def newS(ls:List (List Str))(h:Hd):List Str:=sortS ((usedL h).filter fun x=>ls.all fun p => !(p.contains x))
theorem newL_S(ar:List (Nat×List Str))(h:Hd):newL ar h=newS (ar.map (·.2)) h:=by
 unfold newL newS
 refine congrArg (fun f=>sortS ((usedL h).filter f)) (funext fun x => ?_)
 unfold newQ
 rw[List.all_map]; rfl
noncomputable def piE(h:Hd)(t:Str):Str:="<"++h.hd++">"++t
noncomputable def cutC(d:Loc)(T:List Hd)(ls:List (List Str)):List Str:=T.rec (motive:=fun ι=>List (List Str)→List Str) (fun ι=>[]) (fun h ι r ls=>if h.st=true then piS d h (newS ls h)::r (ls++[newS ls h]) else if ls.length=1 then [piE h ""] else piE h h.text::r ls.dropLast) ls
noncomputable def cutK(d:Loc)(T:List Hd)(j:Nat):List Str:=T.rec (motive:=fun ι=>Nat→List Str) (fun ι=>[]) (fun h T r j=>if h.st=true then (match j with
 | 0=>piS d h (newS [] h)::cutC d T [newS [] h]
 | j+1=>r j) else r j) j
theorem e_len{k:Nat}{sc:Sc}{loc:Loc}{H H1:Hp}{a:Expr}{x:Str}{p1 p2:Pos}(hs:isStar a=false)(hsc:sc.lookup ("len":Str)=some .globalImplicit)(hx:x.length≤1000000)(h:Ev (pe3 P sa is) (k+1) (.e sc loc a H) (.v (.str x) H1)):Ev (pe3 P sa is) (k+2) (.e sc loc (.Call (.Name "len" p1) [a] [] p2) H) (.v (.int x.length) H1) :=
 ev_CallN (lk_glob (by decide) hsc glob_len) rfl (evL_cons hs h evL_nil) evKw_nil (c_bf (fv_lenS (toLim (by trivial))))
noncomputable def CtR(P:Params)(sa:Addr)(is:List Int)(k:Nat)(w:Str)(pl:Int)(o:Nat)(Hs:Hp)(T:List Hd)(se:Int)(H:Hp)(res:List Str):Prop :=
 (Ex2_2 (fun loc' H'=>H'.f 0=H0.f 0) (fun loc' H'=>Ev (pe3 P sa is) k (.for sc_cut (tM P) (bM P) (some 2) Hs (T.map fun h=>V.str h.tok) (locM w pl o se) H) (.f (.ret (.str (cat res))) loc' H'))) ∨
 (Ex3_3 (fun H' ex se'=>H'.f 0=H0.f 0) (fun H' ex se'=>H'.f o = .list (res.map .str)) (fun H' ex se'=>Ev (pe3 P sa is) k (.for sc_cut (tM P) (bM P) (some 2) Hs (T.map fun h=>V.str h.tok) (locM w pl o se) H) (.f .next (locM w pl o se'++ex) H')))
theorem CtR.go{k:Nat}{w:Str}{pl:Int}{o:Nat}{Hs H H1:Hp}{h:Hd}{T:List Hd}{se se1:Int}{ex:Loc}{res:List Str}(h1:Turn (pe3 P sa is) k sc_cut (tM P) (bM P) (.str h.tok) (locM w pl o se) H .next (locM w pl o se1++ex) H1)(hs:stands Hs H1 (some 2))(h2:CtR P sa is k w pl o Hs T se1 H1 res):CtR P sa is k w pl o Hs (h::T) se H res:=by
 rcases h2 with ⟨l,H',z,h⟩ | ⟨H',x,s,z,u,h⟩
 ·exact .inl ⟨l,H',z,for_go h1 rfl (for_forget lk_app h) hs⟩
 ·exact .inr ⟨H',x,s,z,u,for_go h1 rfl (for_forget lk_app h) hs⟩
theorem CutI.alloc{H:Hp}{d:Loc}{o:Nat}{ou:List Str}{ar:List (Nat×List Str)}{x:AObj}(I:CutI H d o ou ar):CutI (H.alloc x) d o ou ar:=by
 have h3:=I.o3
 have hl:=I.lv.lt
 exact ⟨(alloc_lt (by trivial)).trans I.z,(alloc_lt (by trivial)).trans I.sd,h3,(alloc_lt (by trivial)).trans I.out,I.lv.up (Nat.le_succ _) fun j hj ι=>alloc_lt hj,I.ol⟩
theorem ar_ne{H:Hp}{d:Loc}{o:Nat}{ou:List Str}{ar:List (Nat×List Str)}(I:CutI H d o ou ar):Cmp (H.alloc (.list [])) .NotEq (.ref (o+1)) (.ref H.n) (!ar.isEmpty):=by
 have:=Cmp.ne (EqV.list0 (H:=H.alloc (.list [])) (i:=o+1) (j:=H.n) (xs:=ar.map fun p=>V.ref p.1) ((alloc_lt I.lv.lt).trans I.lv.at') alloc_eq)
 rwa [List.isEmpty_map] at this
theorem ar_eq{H:Hp}{d:Loc}{o:Nat}{ou:List Str}{ar:List (Nat×List Str)}(I:CutI H d o ou ar):Cmp (H.alloc (.list [])) .Eq (.ref (o+1)) (.ref H.n) ar.isEmpty:=by
 have:=Cmp.eq (EqV.list0 (H:=H.alloc (.list [])) (i:=o+1) (j:=H.n) (xs:=ar.map fun p=>V.ref p.1) ((alloc_lt I.lv.lt).trans I.lv.at') alloc_eq)
 rwa [List.isEmpty_map] at this
theorem t_head{k:Nat}{w:Str}{pl:Int}{o:Nat}{se:Int}{h:Hd}{H:Hp}(O:HdOk h){fl:Fl}{lc:Loc}{H':Hp}(hz:Ev (pe3 P sa is) (k+74) (.xs sc_cut ((bM P).drop 2) (locH w pl o se h) (H.alloc (.list ((Txt.split h.tok ">").map .str)))) (.f fl lc H')):
  Ev (pe3 P sa is) (k+74) (.xs sc_cut (bM P) (locM w pl o se++([("token",.str h.tok)]:Loc)) H) (.f fl lc H'):=by
 obtain ⟨r,hr⟩:=O.gt
 have lt:=O.lt
 have lh:=O.lh
 have hix:index (H.alloc (.list ((Txt.split h.tok ">").map .str))) (.ref H.n) (.int 0)=some (.str h.hd):=(idx_list (xs:=(Txt.split h.tok ">").map .str) alloc_eq).trans (by rw[hr]; rfl)
 have hsl:∀ {H1:Hp},Slc (pe3 P sa is) H1 (.str h.tok) (some (h.hd.length+1)) none none (.str h.text) H1:=fun {H1}=>by
  have:=Slc.str (pe:=pe3 P sa is) (H:=H1) (s:=h.tok) (lo:=some (h.hd.length+1)) (hi:=none) (toLim (by trivial))
  rwa [O.tx] at this
 exact xs_cons (xv_Asg rfl (fun ι=>rfl) (ev_Idx rfl (ev_CallA rfl rfl (by decide) (ev_Name rfl) rfl rfl (evL_cons rfl (ev_Const rfl) evL_nil) evKw_nil (c_bm (pv_split1 ⟨by decide,toLim (by trivial)⟩ rfl))) (ev_Const rfl) hix) (asgs_one rfl (asg_Name rfl)))
  (xs_cons (xv_Asg rfl (fun ι=>rfl) (ev_Slice (ev_Name rfl) (opt_some (ev_Bin (e_len rfl rfl lh (ev_Name rfl)) (ev_Const rfl) (binR rfl))) opt_none opt_none hsl) (asgs_one rfl (asg_Name rfl))) hz)
theorem head_ne{H:Hp}{h:Hd}(O:HdOk h):Cmp H .NotEq (.str (Txt.slice h.hd none (some 1))) (.str "/") h.st:=by
 have:=Cmp.ne (H:=H) (EqV.str (x:=Txt.slice h.hd none (some 1)) (y:="/"))
 rwa [O.sl,Bool.not_not] at this
theorem head_sl{H:Hp}{h:Hd}(O:HdOk h):Slc (pe3 P sa is) H (.str h.hd) none (some 1) none (.str (Txt.slice h.hd none (some 1))) H := .str (toLim (by have:=O.lh; trivial))
theorem cut_run{k:Nat}{w:Str}{pl:Int}{o:Nat}{Hs:Hp}{d:Loc}(hd:SaidS d){T:List Hd}:∀ {se:Int} {H:Hp} {ou:List Str} {ar:List (Nat×List Str)},(∀ h∈T,HdOk h)→CutI H d o ou ar→ar≠[]→Hs.f 2=H.f 2→ar.length+T.length≤900→ou.length+T.length≤9000→(cat (ou++cutC d T (ar.map (·.2)))).length≤10000000 →
  CtR P sa is (k+74) w pl o Hs T se H (ou++cutC d T (ar.map (·.2))):=by
 induction T with
 | nil=>exact fun {se H ou ar} ι I ι ι ι ι ι => .inr ⟨H,[],se,I.z,by rw[I.out]; exact congrArg (fun l:List Str=>AObj.list (l.map .str)) (List.append_nil ou).symm,for_nil⟩
 | cons h T ih =>
  intro se H ou ar hk I hne hs hl1 hl2 hcat
  rw[List.length_cons] at hl1 hl2
  have O:=hk h (.head _)
  have hkT:=fun q hq=>hk q (List.mem_cons_of_mem h hq)
  have h3:=I.o3
  have hln:=I.lv.lt
  have lh:=O.lh
  have lx:=O.lx
  have hemp:ar.isEmpty=false:=by
   cases ar with
   | nil=>exact absurd rfl hne
   | cons _ _=>rfl
  let A1:=H.alloc (.list ((Txt.split h.tok ">").map .str))
  have I1:CutI A1 d o ou ar:=I.alloc
  have n1:A1.n=H.n+1:=rfl
  let A2:=A1.alloc (.list [])
  have n2:A2.n=H.n+2:=rfl
  have I2:CutI A2 d o ou ar:=I1.alloc
  have low2:∀ j,j<H.n→A2.f j=H.f j:=fun j hj=>(alloc_lt (by trivial)).trans (alloc_lt hj)
  have hn1:Cmp A2 .NotEq (.ref (o+1)) (.ref A1.n) true:=by
   have:=ar_ne I1
   rwa [hemp] at this
  by_cases hst:h.st=true
  ·have hh:Cmp A1 .NotEq (.str (Txt.slice h.hd none (some 1))) (.str "/") true:=hst▸head_ne O
   obtain ⟨H',ex,nid,b1,b2,b3,b4⟩:=t_body (P:=P) (sa:=sa) (is:=is) (k:=k+2) (w:=w) (pl:=pl) (se:=se+1) O I2 hd (by trivial) (by trivial)
   have e:cutC d (h::T) (ar.map (·.2))=piS d h (newL ar h)::cutC d T ((ar++[(nid,newL ar h)]).map (·.2)):=by
    rw[newL_S,List.map_append]; exact if_pos hst
   rw[e] at hcat ⊢
   have e2:ou++piS d h (newL ar h)::cutC d T ((ar++[(nid,newL ar h)]).map (·.2))=(ou++[piS d h (newL ar h)])++cutC d T ((ar++[(nid,newL ar h)]).map (·.2)):=by rw[List.append_assoc]; rfl
   rw[e2] at hcat ⊢
   have low:∀ j,j<H.n→j≠o→j≠o+1→H'.f j=H.f j:=fun j hj q1 q2=>(b3 j (by trivial) q1 q2).trans (low2 j hj)
   have l2:H'.f 2=H.f 2:=low 2 (by trivial) (by trivial) (by trivial)
   refine CtR.go (ex:=ex) (se1:=se+1) (fb rfl (t_head O ?_)) (l2.trans hs.symm) (ih hkT b1 (List.append_ne_nil_of_right_ne_nil _ (List.cons_ne_nil _ _)) (hs.trans l2.symm) (by rw[List.length_append]; show ar.length+1+_≤_; trivial) (by rw[List.length_append]; show ou.length+1+_≤_; trivial) hcat)
   exact xs_cons (xv_If (tv_Cmp rfl (ev_Slice (ev_Name rfl) opt_none (opt_some (ev_Const rfl)) opt_none (head_sl O)) (ev_Const rfl) hh) (xs_cons (xv_Aug rfl rfl rfl (ev_Const rfl) (binR rfl)) (xs_cons (xv_If (tv_Bool (test_stop (tv_Cmp rfl (ev_Name rfl) (ev_List evL_nil (leR rfl) rfl) hn1) rfl)) b4) xs_nil))) xs_nil
  ·have hst':h.st=false:=Bool.eq_false_iff.mpr hst
   have hh:Cmp A1 .NotEq (.str (Txt.slice h.hd none (some 1))) (.str "/") false:=hst'▸head_ne O
   obtain ⟨ar0,p,rfl,hl0⟩:=snoc_of (show ar.length=(ar.length-1)+1 by have:=List.length_pos_iff.mpr hne; trivial)
   rw[List.length_append] at hl1
   let A3:=A2.put (o+1) (.list (ar0.map fun p=>V.ref p.1))
   have n3:A3.n=H.n+2:=rfl
   have hlast:((ar0++[p]).map fun p=>V.ref p.1).getLast? = some (.ref p.1):=by rw[List.map_append]; exact List.getLast?_concat
   have hdl:((ar0++[p]).map fun p=>V.ref p.1).dropLast=ar0.map fun p=>V.ref p.1:=by rw[List.map_append]; exact List.dropLast_concat
   have hpop:Prm A2 .lPop (.ref (o+1)) [] (.ref p.1) A3:=pv_pop I2.lv.at' hlast (by rw[List.length_map]; exact toLim (by have:=I2.lv.len; trivial)) (by rw[hdl])
   have I3:CutI A3 d o ou ar0:=⟨(put_ne (by trivial)).trans I2.z,(put_ne (by trivial)).trans I2.sd,h3,(put_ne (by trivial)).trans I2.out,⟨put_eq,fun q hq=>let ⟨g1,g2,g3⟩:=I2.lv.lv q (List.mem_append_left _ hq); ⟨g1,g2,(put_ne (by trivial)).trans g3⟩,by have:=I2.lv.len; rw[List.length_append] at this; trivial,I2.lv.lt⟩,I2.ol⟩
   let A4:=A3.alloc (.list [])
   have I4:CutI A4 d o ou ar0:=I3.alloc
   have n4:A4.n=H.n+3:=rfl
   have hq1:=ar_ne I3
   let tx:Str:=if ar0.isEmpty=true then "" else h.text
   have txl:tx.length≤1000000:=by
    show (if ar0.isEmpty=true then ("":Str) else h.text).length≤_
    by_cases q:ar0.isEmpty=true
    ·rw[if_pos q]; exact leR rfl
    ·rw[if_neg q]; exact lx
   let A5:=A4.put o (.list (ou.map .str++[.str (piE h tx)]))
   have n5:A5.n=H.n+3:=rfl
   have I5:CutI A5 d o (ou++[piE h tx]) ar0:=⟨(put_ne (by trivial)).trans I4.z,(put_ne (by trivial)).trans I4.sd,h3,put_eq.trans (by rw[List.map_append]; rfl),⟨(put_ne (by trivial)).trans I4.lv.at',fun q hq=>let ⟨g1,g2,g3⟩:=I4.lv.lv q hq; ⟨g1,g2,(put_ne (by trivial)).trans g3⟩,I4.lv.len,I4.lv.lt⟩,by rw[List.length_append]; show ou.length+1≤_; trivial⟩
   have hq2:=ar_eq I5
   have low5:∀ j,j<H.n→j≠o→j≠o+1→A5.f j=H.f j:=fun j hj q1 q2=>(put_ne q1).trans ((alloc_lt (by trivial)).trans ((put_ne q2).trans (low2 j hj)))
   have l2:(A5.alloc (.list [])).f 2=H.f 2:=(alloc_lt (by trivial)).trans (low5 2 (by trivial) (by trivial) (by trivial))
   have s1:("<"++h.hd:Str).length=1+h.hd.length:=sLen _ _
   have s2:("<"++h.hd++">":Str).length=1+h.hd.length+1:=by rw[sLen,s1]; rfl
   have hout:Ev (pe3 P sa is) (k+72) (.x sc_cut (((ifB (elS (bM P)[2]?))[1]?).getD (.Pass ⟨0,0,0,0⟩)) (locH w pl o se h) A3) (.f .next (locH w pl o se h) A5):=by
    refine xv_Expr rfl (ev_CallA rfl rfl (by decide) (ev_Name rfl) (attr_list I3.out rfl) rfl (evL_cons rfl (ev_Bin (ev_Bin (ev_Bin (ev_Const rfl) (ev_Name rfl) (.addS (toLim (by show 1+h.hd.length≤_; trivial)))) (ev_Const rfl) (.addS (toLim (by rw[s1]; show _+1≤_; trivial)))) (ev_If (tv_Cmp rfl (ev_Name rfl) (ev_List evL_nil (leR rfl) rfl) hq1) ?_) (.addS (x:="<"++h.hd++">") (y:=tx) (toLim (by rw[s2]; trivial)))) evL_nil) evKw_nil (c_bm (pv_append I4.out (by rw[List.length_map]; exact ltLim (by trivial)) rfl)))
    show Ev _ _ (.e _ _ (bif !ar0.isEmpty then _ else _) _) (.v (.str (if ar0.isEmpty=true then ("":Str) else h.text)) _)
    cases ar0.isEmpty with
    | true=>exact ev_Const rfl
    | false=>exact ev_Name rfl
   cases q:ar0.isEmpty with
   | true =>
    have e0:ar0=[]:=List.isEmpty_iff.mp q
    have e:cutC d (h::T) ((ar0++[p]).map (·.2))=[piE h tx]:=by
     rw[e0]
     refine (if_neg hst).trans ((if_pos rfl).trans ?_)
     show [piE h ""]=[piE h (if ar0.isEmpty=true then "" else h.text)]
     rw[if_pos q]
    rw[e] at hcat ⊢
    rw[q] at hq2
    have hjn:Prm (A5.alloc (.list [])) .tJoin (.str "") [.ref o] (.str (cat (ou++[piE h tx]))) (A5.alloc (.list [])):=by
     have:=pv_join (H:=A5.alloc (.list [])) (i:=o) (x:=Str.empty) (xs:=(ou++[piE h tx]).map .str) (l:=ou++[piE h tx]) I5.alloc.out (strsOf_map _) (joinOk hcat)
     rw[tjoin_cat] at this; exact this
    exact .inl ⟨_,A5.alloc (.list []),I5.alloc.z,for_end (fb rfl (t_head O (xs_stop (xv_If (tv_Cmp rfl (ev_Slice (ev_Name rfl) opt_none (opt_some (ev_Const rfl)) opt_none (head_sl O)) (ev_Const rfl) hh) (xs_stop (xv_If (tv_Cmp rfl (ev_Name rfl) (ev_List evL_nil (leR rfl) rfl) hn1) (xs_cons (xv_Expr rfl (ev_CallA rfl rfl (by decide) (ev_Name rfl) (attr_list I2.lv.at' rfl) rfl evL_nil evKw_nil (c_bm hpop))) (xs_cons hout (xs_stop (xv_If (tv_Cmp rfl (ev_Name rfl) (ev_List evL_nil (leR rfl) rfl) hq2) (xs_stop (xv_Ret (ev_CallA rfl rfl (by decide) (ev_Const rfl) rfl rfl (evL_cons rfl (ev_Name rfl) evL_nil) evKw_nil (c_bm hjn))) rfl)) rfl)))) rfl)) rfl)))⟩
   | false =>
    have hne0:ar0≠[]:=fun e=>by rw[e] at q; exact noB q.symm
    have e:cutC d (h::T) ((ar0++[p]).map (·.2))=piE h tx::cutC d T (ar0.map (·.2)):=by
     refine (if_neg hst).trans ((if_neg ?_).trans ?_)
     ·rw[List.length_map,List.length_append]
      have:=List.length_pos_iff.mpr hne0
      show ¬ ar0.length+1=1
      trivial
     ·rw[List.map_append]
      show piE h h.text::cutC d T ((ar0.map (·.2))++[p.2]).dropLast=piE h (if ar0.isEmpty=true then "" else h.text)::_
      rw[List.dropLast_concat,if_neg (by rw[q]; exact Bool.false_ne_true)]
    rw[e] at hcat ⊢
    rw[q] at hq2
    have e2:ou++piE h tx::cutC d T (ar0.map (·.2))=(ou++[piE h tx])++cutC d T (ar0.map (·.2)):=by rw[List.append_assoc]; rfl
    rw[e2] at hcat ⊢
    refine CtR.go (se1:=se) (ex:=([("token",.str h.tok),("head",.str h.hd),("text",.str h.text)]:Loc)) (fb rfl (t_head O ?_)) (l2.trans hs.symm) (ih hkT I5.alloc hne0 (hs.trans l2.symm) (by trivial) (by rw[List.length_append]; show ou.length+1+_≤_; trivial) hcat)
    exact xs_cons (xv_If (tv_Cmp rfl (ev_Slice (ev_Name rfl) opt_none (opt_some (ev_Const rfl)) opt_none (head_sl O)) (ev_Const rfl) hh) (xs_cons (xv_If (tv_Cmp rfl (ev_Name rfl) (ev_List evL_nil (leR rfl) rfl) hn1) (xs_cons (xv_Expr rfl (ev_CallA rfl rfl (by decide) (ev_Name rfl) (attr_list I2.lv.at' rfl) rfl evL_nil evKw_nil (c_bm hpop))) (xs_cons hout (xs_cons (xv_If (tv_Cmp rfl (ev_Name rfl) (ev_List evL_nil (leR rfl) rfl) hq2) xs_nil) xs_nil)))) xs_nil)) xs_nil
end
section
variable {P:Params} {sa:Addr} {is:List Int}
theorem lk_setL{l:Loc}{x y:Str}{v u:V}(h:(setL l x v).lookup y=some u):u=v∨l.lookup y=some u:=by
 induction l with
 | nil =>
  have h':([(x,v)]:Loc).lookup y=some u:=h
  rw[List.lookup_cons] at h'
  cases e:y==x with
  | true=>rw[e] at h'; exact .inl (Option.some.inj h').symm
  | false=>rw[e] at h'; exact noS h'
 | cons p l ih =>
  by_cases hp:p.1=x
  ·have e:setL (p::l) x v=(x,v)::l:=if_pos hp
   rw[e,List.lookup_cons] at h
   rw[List.lookup_cons,hp]
   cases e:y==x with
   | true=>rw[e] at h; exact .inl (Option.some.inj h).symm
   | false=>rw[e] at h; exact .inr h
  ·have e:setL (p::l) x v=p::setL l x v:=if_neg hp
   rw[e,List.lookup_cons] at h
   rw[List.lookup_cons]
   cases e:y==p.1 with
   | true=>rw[e] at h; exact .inr h
   | false=>rw[e] at h; exact ih h
theorem said_s{T:List Hd}:∀ {d:Loc},(∀ h∈T,HdOk h)→SaidS d→SaidS (saidT d T):=by
 have one:∀ {l:List (Str×Str)} {d:Loc},(∀ p∈l,KeyOk p)→SaidS d→SaidS (saidL d l):=fun {l}=>by
  induction l with
  | nil=>exact fun {d} ι h=>h
  | cons p l ih =>
   intro d hk h
   refine ih (fun q hq=>hk q (.tail _ hq)) (show SaidS (saidIt d p) from ?_)
   unfold saidIt
   by_cases c:Txt.startswith p.2 "xmlns"=true
   ·rw[if_pos c]
    intro x v hv
    rcases lk_setL hv with rfl | hv
    ·exact ⟨_,rfl,Nat.le_trans (hk p (.head _)).2 (by decide)⟩
    ·exact h x v hv
   ·rw[if_neg c]; exact h
 induction T with
 | nil=>exact fun {d} ι h=>h
 | cons h T ih=>exact fun {d} hk hd=>ih (fun q hq=>hk q (.tail _ hq)) (one (hk h (.head _)).key hd)
theorem skip_run{k:Nat}{w:Str}{pl:Int}{o:Nat}{Hs:Hp}{d:Loc}(hd:SaidS d){T:List Hd}:∀ {j:Nat} {se:Int} {H:Hp},pl=se+1+j→(∀ h∈T,HdOk h)→CutI H d o [] []→Hs.f 2=H.f 2→T.length≤800→(cat (cutK d T j)).length≤10000000 →
  CtR P sa is (k+74) w pl o Hs T se H (cutK d T j):=by
 induction T with
 | nil=>exact fun {j se H} ι ι I ι ι ι => .inr ⟨H,[],se,I.z,I.out,for_nil⟩
 | cons h T ih =>
  intro j se H hj hk I hs hl hcat
  rw[List.length_cons] at hl
  have O:=hk h (.head _)
  have hkT:=fun q hq=>hk q (List.mem_cons_of_mem h hq)
  have h3:=I.o3
  have hln:=I.lv.lt
  let A1:=H.alloc (.list ((Txt.split h.tok ">").map .str))
  have I1:CutI A1 d o [] []:=I.alloc
  have n1:A1.n=H.n+1:=rfl
  let A2:=A1.alloc (.list [])
  have n2:A2.n=H.n+2:=rfl
  have I2:CutI A2 d o [] []:=I1.alloc
  have low2:∀ j,j<H.n→A2.f j=H.f j:=fun j hj=>(alloc_lt (by trivial)).trans (alloc_lt hj)
  have hn1:Cmp A2 .NotEq (.ref (o+1)) (.ref A1.n) false:=ar_ne I1
  by_cases hst:h.st=true
  ·have hh:Cmp A1 .NotEq (.str (Txt.slice h.hd none (some 1))) (.str "/") true:=hst▸head_ne O
   cases j with
   | zero =>
    have hpl:pl=se+1:=by rw[hj]; exact Int.add_zero _
    obtain ⟨H',ex,nid,b1,b2,b3,b4⟩:=t_body (P:=P) (sa:=sa) (is:=is) (k:=k+2) (w:=w) (pl:=pl) (se:=se+1) O I2 hd (by show 0≤_; trivial) (by show 0<_; trivial)
    have e:cutK d (h::T) 0=[piS d h (newL [] h)]++cutC d T (([]++[(nid,newL [] h)]:List (Nat×List Str)).map (·.2)):=by
     rw[newL_S]; exact if_pos hst
    rw[e] at hcat ⊢
    have l2:H'.f 2=H.f 2:=(b3 2 (by trivial) (by trivial) (by trivial)).trans (low2 2 (by trivial))
    refine CtR.go (ex:=ex) (se1:=se+1) (fb rfl (t_head O ?_)) (l2.trans hs.symm) (cut_run hd hkT b1 (List.cons_ne_nil _ _) (hs.trans l2.symm) (by show 1+_≤_; trivial) (by show 1+_≤_; trivial) hcat)
    exact xs_cons (xv_If (tv_Cmp rfl (ev_Slice (ev_Name rfl) opt_none (opt_some (ev_Const rfl)) opt_none (head_sl O)) (ev_Const rfl) hh) (xs_cons (xv_Aug rfl rfl rfl (ev_Const rfl) (binR rfl)) (xs_cons (xv_If (tv_Bool (test_go (tv_Cmp rfl (ev_Name rfl) (ev_List evL_nil (leR rfl) rfl) hn1) rfl (test_stop (tv_Cmp rfl (ev_Name rfl) (ev_Name rfl) (cmp_ieqT hpl.symm)) rfl))) b4) xs_nil))) xs_nil
   | succ j =>
    have e:cutK d (h::T) (j+1)=cutK d T j:=if_pos hst
    rw[e] at hcat ⊢
    refine CtR.go (se1:=se+1) (ex:=([("token",.str h.tok),("head",.str h.hd),("text",.str h.text)]:Loc)) (fb rfl (t_head O ?_)) ((low2 2 (by trivial)).trans hs.symm) (ih (j:=j) (by rw[hj]; trivial) hkT I2 (hs.trans (low2 2 (by trivial)).symm) (by trivial) hcat)
    exact xs_cons (xv_If (tv_Cmp rfl (ev_Slice (ev_Name rfl) opt_none (opt_some (ev_Const rfl)) opt_none (head_sl O)) (ev_Const rfl) hh) (xs_cons (xv_Aug rfl rfl rfl (ev_Const rfl) (binR rfl)) (xs_cons (xv_If (tv_Bool (test_go (tv_Cmp rfl (ev_Name rfl) (ev_List evL_nil (leR rfl) rfl) hn1) rfl (test_go (tv_Cmp rfl (ev_Name rfl) (ev_Name rfl) (cmp_ieqF (by rw[hj]; trivial))) rfl test_nil))) xs_nil) xs_nil))) xs_nil
  ·have hst':h.st=false:=Bool.eq_false_iff.mpr hst
   have hh:Cmp A1 .NotEq (.str (Txt.slice h.hd none (some 1))) (.str "/") false:=hst'▸head_ne O
   have e:cutK d (h::T) j=cutK d T j:=if_neg hst
   rw[e] at hcat ⊢
   refine CtR.go (se1:=se) (ex:=([("token",.str h.tok),("head",.str h.hd),("text",.str h.text)]:Loc)) (fb rfl (t_head O ?_)) ((low2 2 (by trivial)).trans hs.symm) (ih (j:=j) hj hkT I2 (hs.trans (low2 2 (by trivial)).symm) (by trivial) hcat)
   exact xs_cons (xv_If (tv_Cmp rfl (ev_Slice (ev_Name rfl) opt_none (opt_some (ev_Const rfl)) opt_none (head_sl O)) (ev_Const rfl) hh) (xs_cons (xv_If (tv_Cmp rfl (ev_Name rfl) (ev_List evL_nil (leR rfl) rfl) hn1) xs_nil) xs_nil)) xs_nil
theorem cut_h0{k j:Nat}{w:Str}{T:List Hd}(hw:w.length≤1000000){x:Str}(hsp:Txt.split w "<"=x::T.map (·.tok))(hk:∀ h∈T,HdOk h)(hl:T.length≤800)(hcat:(cat (cutK (saidT [] T) T j)).length≤10000000):
  ∃ H',H'.f 0=H0.f 0∧Ev (pe3 P sa is) (k+90) (.c (.fn 201) [.str w,.int j] [] H0) (.v (.str (cat (cutK (saidT [] T) T j))) H'):=by
 let B1:=H0.alloc (.list ((Txt.split w "<").map .str))
 let B2:=B1.alloc (.list (T.map fun h=>V.str h.tok))
 let B3:=B2.alloc (.dict [])
 have n0:H0.n=1:=rfl
 have m1:B1.n=2:=rfl
 have m2:B2.n=3:=rfl
 have m3:B3.n=4:=rfl
 have hsl:Slc (pe3 P sa is) B1 (.ref 1) (some 1) none none (.ref 2) B2:=by
  have e:cutV ((Txt.split w "<").map .str) (some 1) none none=T.map fun h=>V.str h.tok:=by
   rw[hsp,List.map_cons,cutV_tail,List.map_map]; rfl
  refine .list (xs:=(Txt.split w "<").map .str) rfl (by decide) ?_ (by rw[e])
  rw[hsp,List.length_map,List.length_cons,List.length_map]; exact toLim (by trivial)
 obtain ⟨H4,ex,a1,a2,a3,a4⟩:=said_loop (P:=P) (sa:=sa) (is:=is) (k:=k+28) (w:=w) (pl:=j) (Hs:=B3) (T:=T) (d:=[]) (H:=B3) hk (by trivial) rfl rfl (by show 0+_≤_; trivial)
 let B5:=H4.alloc (.list [])
 let B6:=B5.alloc (.list [])
 have m5:B5.n=H4.n+1:=rfl
 have m6:B6.n=H4.n+2:=rfl
 have low:∀ i,i<4→i≠3→B6.f i=B3.f i:=fun i hi h3=>(alloc_lt (by trivial)).trans ((alloc_lt (by trivial)).trans (a3 i (by trivial) h3))
 have sd:SaidS (saidT [] T):=said_s hk fun x v h=>noS h
 have I:CutI B6 (saidT [] T) H4.n [] []:=⟨low 0 (by trivial) (by trivial),(alloc_lt (by trivial)).trans ((alloc_lt (by trivial)).trans a1),by trivial,(alloc_lt (by trivial)).trans alloc_eq,⟨alloc_eq,fun p hp=>(nomatch hp),Nat.zero_le _,by show H4.n+1<H4.n+2; trivial⟩,Nat.zero_le _⟩
 have tk:B6.f 2 = .list (T.map fun h=>V.str h.tok):=low 2 (by trivial) (by trivial)
 have run:=skip_run (P:=P) (sa:=sa) (is:=is) (k:=k+14) (w:=w) (pl:=j) (o:=H4.n) (Hs:=B6) (d:=saidT [] T) sd (T:=T) (j:=j) (se := -1) (H:=B6) (by trivial) hk I rfl hl hcat
 have tk3:B3.f 2 = .list (T.map fun h=>V.str h.tok):=rfl
 rcases run with ⟨lc,H',z,ev⟩ | ⟨H',x,se',z,u,ev⟩
 ·exact ⟨H',z,c_fn (init_none (by decide)) (run_fn (fn_cut P sa is) .cut body_cut nm_cut (xs_cons (xv_Asg rfl (fun ι=>rfl) (ev_Slice (ev_CallA rfl rfl (by decide) (ev_Name rfl) rfl rfl (evL_cons rfl (ev_Const rfl) evL_nil) evKw_nil (c_bm (pv_split1 ⟨by decide,toLim (by trivial)⟩ rfl))) (opt_some (ev_Const rfl)) opt_none opt_none hsl) (asgs_one rfl (asg_Name rfl)))
   (xs_cons (xv_Asg rfl (fun ι=>rfl) (ev_Dict0 rfl) (asgs_one rfl (asg_Name rfl)))
   (xs_cons (xv_For rfl (ev_Name rfl) (items_ref tk3) a4) (xs_forget lk_app
   (xs_cons (xv_Asg rfl (fun ι=>rfl) (ev_List evL_nil (leR rfl) rfl) (asgs_one rfl (asg_Name rfl)))
   (xs_cons (xv_Asg rfl (fun ι=>rfl) (ev_List evL_nil (leR rfl) rfl) (asgs_one rfl (asg_Name rfl)))
   (xs_cons (xv_Asg rfl (fun ι=>rfl) (ev_Neg (ev_Const rfl)) (asgs_one rfl (asg_Name rfl)))
   (xs_stop (xv_For rfl (ev_Name rfl) (items_ref tk) ev) rfl)))))))) rfl)⟩
 ·have hjn:Prm H' .tJoin (.str "") [.ref H4.n] (.str (cat (cutK (saidT [] T) T j))) H':=by
   have:=pv_join (H:=H') (i:=H4.n) (x:=Str.empty) (xs:=(cutK (saidT [] T) T j).map .str) (l:=cutK (saidT [] T) T j) u (strsOf_map _) (joinOk hcat)
   rw[tjoin_cat] at this; exact this
  exact ⟨H',z,c_fn (init_none (by decide)) (run_fn (fn_cut P sa is) .cut body_cut nm_cut (xs_cons (xv_Asg rfl (fun ι=>rfl) (ev_Slice (ev_CallA rfl rfl (by decide) (ev_Name rfl) rfl rfl (evL_cons rfl (ev_Const rfl) evL_nil) evKw_nil (c_bm (pv_split1 ⟨by decide,toLim (by trivial)⟩ rfl))) (opt_some (ev_Const rfl)) opt_none opt_none hsl) (asgs_one rfl (asg_Name rfl)))
   (xs_cons (xv_Asg rfl (fun ι=>rfl) (ev_Dict0 rfl) (asgs_one rfl (asg_Name rfl)))
   (xs_cons (xv_For rfl (ev_Name rfl) (items_ref tk3) a4) (xs_forget lk_app
   (xs_cons (xv_Asg rfl (fun ι=>rfl) (ev_List evL_nil (leR rfl) rfl) (asgs_one rfl (asg_Name rfl)))
   (xs_cons (xv_Asg rfl (fun ι=>rfl) (ev_List evL_nil (leR rfl) rfl) (asgs_one rfl (asg_Name rfl)))
   (xs_cons (xv_Asg rfl (fun ι=>rfl) (ev_Neg (ev_Const rfl)) (asgs_one rfl (asg_Name rfl)))
   (xs_cons (xv_For rfl (ev_Name rfl) (items_ref tk) ev) (xs_forget lk_app (xs_stop (xv_Ret (ev_CallA rfl rfl (by decide) (ev_Const rfl) rfl rfl (evL_cons rfl (ev_Name rfl) evL_nil) evKw_nil (c_bm hjn))) rfl)))))))))) rfl)⟩
theorem t_cut{k j:Nat}{w:Str}{T:List Hd}{H:Hp}(hw:w.length≤1000000){x:Str}(hsp:Txt.split w "<"=x::T.map (·.tok))(hk:∀ h∈T,HdOk h)(hl:T.length≤800)(hcat:(cat (cutK (saidT [] T) T j)).length≤10000000)(h0:H.f 0=H0.f 0)(hn:0<H.n):
  Ev (pe3 P sa is) (k+90) (.c (.fn 201) [.str w,.int j] [] H) (.v (.str (cat (cutK (saidT [] T) T j))) H):=by
 obtain ⟨H',z,ev⟩:=cut_h0 (P:=P) (sa:=sa) (is:=is) (k:=k) hw hsp hk hl hcat
 exact Ev.frame ev rfl rfl z h0 hn
end
section
variable {P:Params} {sa:Addr} {is:List Int}
noncomputable def sc_ev:Sc:=[("numbers",.local),("keys",.local),("values",.local),("texts",.local),("events",.local),("names",.local),("begun",.local),("x",.local),("rest",.local),("kind",.local),("attrs",.local),("place",.local),("divmod",.globalImplicit),("len",.globalImplicit),("range",.globalImplicit)]
theorem nm_ev:(fdAt (hd.heap_39 P) 175).scope.names=sc_ev:=by kernel_rfl
theorem body_ev:(fdAt (hd.heap_39 P) 175).body = .stmts (bodyAt (hd.heap_39 P) 175):=by kernel_rfl
noncomputable def vals4:List Str:=["1","<&\"","\n\t\r",""]
noncomputable def txts4:List Str:=["x","<&>","\r y ","]]>"]
noncomputable def valAt(i:Int):Str:=vals4.getD i.toNat Str.empty
noncomputable def txtAt(i:Int):Str:=txts4.getD i.toNat Str.empty
noncomputable def tagAt(i:Int):Nm:=t4.getD i.toNat nDA
theorem at4{α:Type}{l:List α}{f:α→V}{d:α}(h4:l.length=4){i:Int}(h0:0≤i)(h1:i<4):atIdx (l.map f) i=some (f (l.getD i.toNat d)):=by
 have hl:i.toNat<l.length:=by trivial
 unfold atIdx
 rw[if_neg (by trivial),if_pos h0,List.getElem?_map,List.getElem?_eq_getElem hl,List.getD_eq_getElem?_getD,List.getElem?_eq_getElem hl]; rfl
noncomputable def bit(r:Int)(p:Nat):Bool:=r/4/2 ^ (p:Int).toNat % 2==1
noncomputable def atU(r:Int):Nat→List (Nm×Str)
 | 0=>[]
 | p+1=>atU r p++(if bit r p=true then [(k4.getD p nK,valAt ((r/64+(p:Int)) % 4))] else [])
noncomputable abbrev locV(N:V)(n:Nat)(bg:Int):Loc:=[("numbers",N),("keys",.ref n),("values",.ref (n+1)),("texts",.ref (n+2)),("events",.ref (n+3)),("names",.ref (n+4)),("begun",.int bg)]
noncomputable abbrev locW(N:V)(n:Nat)(bg x r kd:Int)(a:Nat):Loc:=locV N n bg++([("x",.int x),("rest",.int r),("kind",.int kd),("attrs",.ref a)]:Loc)
noncomputable abbrev bEv(P:Params):List Stmt:=forB (bodyAt (hd.heap_39 P) 175)[6]?
noncomputable abbrev tEv(P:Params):Expr:=forT (bodyAt (hd.heap_39 P) 175)[6]?
noncomputable abbrev tAt(P:Params):Expr:=forT (ifB (bEv P)[1]?)[1]?
noncomputable abbrev bAt(P:Params):List Stmt:=forB (ifB (bEv P)[1]?)[1]?
theorem lk_none{l:List (Nm×Str)}{q:Str}(h:∀ p∈l,p.1.q≠q):(kvsOf l).lookup q=none:=by
 induction l with
 | nil=>rfl
 | cons p l ih =>
  show List.lookup q ((p.1.q,.str p.2)::kvsOf l)=_
  rw[List.lookup_cons,beq_false_of_ne fun e=>h p (.head _) e.symm]
  exact ih fun y hy=>h y (.tail _ hy)
theorem kvs_app(l m:List (Nm×Str)):kvsOf (l++m)=kvsOf l++kvsOf m:=List.map_append
theorem atU_keys(r:Int){p:Nat}:p≤4→((atU r p).map (·.1)).Sublist (k4.take p):=by
 induction p with
 | zero=>exact fun ι => .slnil
 | succ p ih =>
  intro h4
  have hp:p<k4.length:=h4
  have e:atU r (p+1)=atU r p++(if bit r p=true then [(k4.getD p nK,valAt ((r/64+(p:Int)) % 4))] else []):=rfl
  rw[e,List.map_append,List.take_succ_eq_append_getElem hp]
  refine List.Sublist.append (ih (by trivial)) ?_
  by_cases hb:bit r p=true
  ·rw[if_pos hb,List.getD_eq_getElem?_getD,List.getElem?_eq_getElem hp]; exact List.Sublist.refl _
  ·rw[if_neg hb]; exact List.nil_sublist _
theorem val_len(i:Int)(_:0≤i)(h1:i<4):(valAt i).length≤3:=by
 have hl:i.toNat<vals4.length:=by show _<4; trivial
 unfold valAt
 rw[List.getD_eq_getElem?_getD,List.getElem?_eq_getElem hl]
 have:∀ x∈vals4,x.length≤3:=by decide+kernel
 exact this _ (List.getElem_mem hl)
theorem atU_val(r:Int){p:Nat}:∀ q∈atU r p,q.2.length≤3:=by
 induction p with
 | zero=>exact fun q h=>nomatch h
 | succ p ih =>
  intro q hq
  have e:atU r (p+1)=atU r p++(if bit r p=true then [(k4.getD p nK,valAt ((r/64+(p:Int)) % 4))] else []):=rfl
  rw[e] at hq
  rcases List.mem_append.mp hq with hq | hq
  ·exact ih q hq
  ·by_cases hb:bit r p=true
   ·rw[if_pos hb] at hq
    rw[List.mem_singleton.mp hq]
    exact val_len _ (Int.emod_nonneg _ (by decide)) (Int.emod_lt_of_pos _ (by decide))
   ·rw[if_neg hb] at hq; exact nomatch hq
theorem atU_ok(r:Int):AtOk (atU r 4):=⟨atU_keys r (Nat.le_refl _),fun p hp=>Nat.le_trans (atU_val r p hp) (by decide)⟩
theorem k4_fresh{p:Nat}(hp:p<4){m:Nm}(hm:m∈k4.take p):m.q≠(k4.getD p nK).q:=by
 have:(List.range 4).all (fun p=>(k4.take p).all fun m => !(m.q==(k4.getD p nK).q))=true:=by decide+kernel
 have h1:=List.all_eq_true.mp (List.all_eq_true.mp this p (List.mem_range.mpr hp)) m hm
 intro e
 rw[e,beq_self_eq_true] at h1
 exact noB h1
theorem atU_len(r:Int){p:Nat}(hp:p≤4):(kvsOf (atU r p)).length≤4:=by
 have h:=(atU_keys r hp).length_le
 rw[List.length_map,List.length_take] at h
 unfold kvsOf
 rw[List.length_map]
 exact Nat.le_trans h (Nat.le_trans (Nat.min_le_left _ _) hp)
theorem attr_run{k:Nat}{N:V}{n a:Nat}{bg x r kd:Int}(han:n+4<a){left:Nat}:∀ {p:Nat} {H:Hp},p+left=4→H.f n = .list (k4.map fun m=>V.str m.q)→H.f (n+1) = .list (vals4.map .str)→H.f a = .dict (kvsOf (atU r p)) →
  Ex2_4 (fun H' ex=>H'.f a = .dict (kvsOf (atU r 4))) (fun H' ex=>(∀ j,j≠a→H'.f j=H.f j)) (fun H' ex=>H'.n=H.n) (fun H' ex=>EvR (pe3 P sa is) (k+40) sc_ev (tAt P) (bAt P) 1 (p:Int) left (locW N n bg x r kd a) H .next (locW N n bg x r kd a++ex) H'):=by
 induction left with
 | zero=>exact fun {p H} e ι ι h=>⟨H,[],by rw[h,show p=4 from e],fun ι ι=>rfl,rfl,EvR.nil⟩
 | succ left ih =>
  intro p H e h1 h2 h3
  have hp:p<4:=by trivial
  have hp2:(0:Int)<2 ^ (p:Int).toNat∧(2:Int) ^ (p:Int).toNat<2 ^ 30:=by
   have:p=0∨p=1∨p=2∨p=3:=by trivial
   rcases this with rfl | rfl | rfl | rfl <;> decide
  have eU:atU r (p+1)=atU r p++(if bit r p=true then [(k4.getD p nK,valAt ((r/64+(p:Int)) % 4))] else []):=rfl
  have hbin:∀ {t:Bool},bit r p=t→Ev (pe3 P sa is) (k+39) (.t sc_ev (locW N n bg x r kd a++([("place",.int p)]:Loc)) (forT (bAt P).head?) H) (.b t H):=fun {t} ht=>by
   have hc:Cmp H .Eq (.int (r/4/2 ^ (p:Int).toNat % 2)) (.int 1) t:=ht ▸ .eq .int
   exact tv_Cmp rfl (ev_Bin (ev_Bin (ev_Bin (ev_Name rfl) (ev_Const rfl) (binR rfl)) (ev_Bin (ev_Const rfl) (ev_Name rfl) (.powI (by trivial))) (.divI hp2)) (ev_Const rfl) (binR rfl)) (ev_Const rfl) hc
  by_cases hb:bit r p=true
  ·let H1:=H.put a (.dict (kvsOf (atU r (p+1))))
   have hput:putD H a (k4.getD p nK).q (.str (valAt ((r/64+(p:Int)) % 4))) (H.f a)=some H1:=by
    rw[h3]
    refine (if_pos (ltLim (Nat.le_trans (atU_len r (Nat.le_of_lt hp)) (by decide)))).trans ?_
    rw[setL_app (lk_none fun q hq=>k4_fresh hp ((atU_keys r (Nat.le_of_lt hp)).subset (List.mem_map_of_mem (f:=(·.1)) hq)))]
    show some (H.put a (.dict (kvsOf (atU r p)++[((k4.getD p nK).q,.str (valAt ((r/64+(p:Int)) % 4)))])))=some (H.put a (.dict (kvsOf (atU r (p+1)))))
    rw[eU,if_pos hb,kvs_app]; rfl
   obtain ⟨H',ex,a1,a2,a3,a4⟩:=ih (p:=p+1) (H:=H1) (by trivial) ((put_ne (by trivial)).trans h1) ((put_ne (by trivial)).trans h2) put_eq
   refine ⟨H',ex,a1,fun j hj=>(a2 j hj).trans (put_ne hj),a3,EvR.cons (fl := .next) (loc1:=locW N n bg x r kd a++([("place",.int p)]:Loc)) (loc2:=locW N n bg x r kd a++([("place",.int p)]:Loc)) (H1:=H1) rfl ?_ rfl (EvR.forget lk_app a4)⟩
   have i1:index H (.ref n) (.int p)=some (.str (k4.getD p nK).q):=(idx_list h1).trans (at4 (l:=k4) (d:=nK) rfl (by trivial) (by trivial))
   have i2:index H (.ref (n+1)) (.int ((r/64+(p:Int)) % 4))=some (.str (valAt ((r/64+(p:Int)) % 4))):=(idx_list h2).trans (at4 (l:=vals4) (d:=Str.empty) rfl (Int.emod_nonneg _ (by decide)) (Int.emod_lt_of_pos _ (by decide)))
   exact xs_cons (xv_If (hbin hb) (xs_cons (xv_Asg rfl (fun ι=>rfl) (ev_Idx rfl (ev_Name rfl) (ev_Bin (ev_Bin (ev_Bin (ev_Name rfl) (ev_Const rfl) (binR rfl)) (ev_Name rfl) (binR rfl)) (ev_Const rfl) (binR rfl)) i2) (asgs_one rfl (asg_Sub (ev_Name rfl) (ev_Idx rfl (ev_Name rfl) (ev_Name rfl) i1) hput))) xs_nil)) xs_nil
  ·have hb':bit r p=false:=Bool.eq_false_iff.mpr hb
   have e2:atU r (p+1)=atU r p:=by rw[eU,if_neg hb]; exact List.append_nil _
   obtain ⟨H',ex,a1,a2,a3,a4⟩:=ih (p:=p+1) (H:=H) (by trivial) h1 h2 (by rw[e2]; exact h3)
   refine ⟨H',ex,a1,a2,a3,EvR.cons (fl := .next) (loc1:=locW N n bg x r kd a++([("place",.int p)]:Loc)) (loc2:=locW N n bg x r kd a++([("place",.int p)]:Loc)) (H1:=H) rfl ?_ rfl (EvR.forget lk_app a4)⟩
   exact xs_cons (xv_If (hbin hb') xs_nil) xs_nil
end
section
variable {P:Params} {sa:Addr} {is:List Int}
structure ES where
 ev:List Et
 ns:List Nm
 bg:Nat
noncomputable def cnd(kd:Int)(l bg:Nat):Bool:=(bg:Int)==0||(decide (kd<2)&&(decide ((l:Int)<6)&&decide ((bg:Int)<10)))
noncomputable def cnE(kd:Int)(l:Nat):Bool:=kd==2&&decide ((l:Int)>1)
noncomputable def ES.step(S:ES)(x:Int):ES :=
 if cnd (x % 4) S.ns.length S.bg=true then ⟨S.ev++[.st (tagAt (x/4 % 4)) (atU (x/4) 4)],S.ns++[tagAt (x/4 % 4)],S.bg+1⟩
 else if cnE (x % 4) S.ns.length=true then ⟨S.ev++[.en (S.ns.getLast?.getD nDA)],S.ns.dropLast,S.bg⟩
 else ⟨S.ev++[.tx (txtAt (x/4 % 4))],S.ns,S.bg⟩
structure EvH (H Hs:Hp) (n:Nat) (E:EL) (ns:List Nm):Prop where
 ks:H.f n = .list (k4.map fun m=>V.str m.q)
 vs:H.f (n+1) = .list (vals4.map .str)
 ts:H.f (n+2) = .list (txts4.map .str)
 ev:H.f (n+3) = .list (E.map evV)
 nm:H.f (n+4) = .list (ns.map fun m=>V.str m.q)
 ds:∀ p∈E,n+4<p.2∧p.2<H.n∧H.f p.2 = .dict p.1.ats
 lt:n+4<H.n
 low:∀ j,j<n→H.f j=Hs.f j
theorem EvH.up{H H' Hs:Hp}{n:Nat}{E:EL}{ns:List Nm}(I:EvH H Hs n E ns)(hn:H.n≤H'.n)(h:∀ j,j<H.n→H'.f j=H.f j):EvH H' Hs n E ns:=by
 have:=I.lt
 exact ⟨(h _ (by trivial)).trans I.ks,(h _ (by trivial)).trans I.vs,(h _ (by trivial)).trans I.ts,(h _ (by trivial)).trans I.ev,(h _ (by trivial)).trans I.nm,fun p hp=>let ⟨a,b,c⟩:=I.ds p hp; ⟨a,by trivial,(h _ b).trans c⟩,by trivial,fun j hj=>(h _ (by trivial)).trans (I.low j hj)⟩
theorem EvH.names{H Hs:Hp}{n:Nat}{E:EL}{ns ns':List Nm}(I:EvH H Hs n E ns):EvH (H.put (n+4) (.list (ns'.map fun m=>V.str m.q))) Hs n E ns' :=
 ⟨(put_ne (by trivial)).trans I.ks,(put_ne (by trivial)).trans I.vs,(put_ne (by trivial)).trans I.ts,(put_ne (by trivial)).trans I.ev,put_eq,fun p hp=>let ⟨a,b,c⟩:=I.ds p hp; ⟨a,b,(put_ne (by trivial)).trans c⟩,I.lt,fun j hj=>(put_ne (by trivial)).trans (I.low j hj)⟩
theorem EvH.event{H Hs:Hp}{n d:Nat}{E:EL}{ns:List Nm}{e:Et}(I:EvH H Hs n E ns)(hd:n+4<d∧d<H.n)(hG:H.f d = .dict e.ats):EvH (H.put (n+3) (.list (E.map evV++[evV (e,d)]))) Hs n (E++[(e,d)]) ns :=
 ⟨(put_ne (by trivial)).trans I.ks,(put_ne (by trivial)).trans I.vs,(put_ne (by trivial)).trans I.ts,put_eq.trans (by rw[List.map_append]; rfl),(put_ne (by trivial)).trans I.nm,fun p hp=>by
  rcases List.mem_append.mp hp with hp | hp
  ·obtain ⟨a,b,c⟩:=I.ds p hp
   exact ⟨a,b,(put_ne (by trivial)).trans c⟩
  ·rw[List.mem_singleton.mp hp]; exact ⟨hd.1,hd.2,(put_ne (by show d≠n+3; trivial)).trans hG⟩,I.lt,fun j hj=>(put_ne (by trivial)).trans (I.low j hj)⟩
theorem cmp_ltB{H:Hp}{x y:Int}{b:Bool}(h:decide (x<y)=b):Cmp H .Lt (.int x) (.int y) b:=h ▸ .lt
theorem cmp_gtB{H:Hp}{x y:Int}{b:Bool}(h:decide (x>y)=b):Cmp H .Gt (.int x) (.int y) b:=h ▸ .gt
theorem cmp_eqB{H:Hp}{x y:Int}{b:Bool}(h:(x==y)=b):Cmp H .Eq (.int x) (.int y) b:=h ▸ .eq .int
noncomputable abbrev locX(N:V)(n:Nat)(bg x:Int):Loc:=locV N n bg++([("x",.int x),("rest",.int (x/4)),("kind",.int (x % 4))]:Loc)
noncomputable def ifC:Option Stmt→Expr
 | some (.If c _ _ _)=>c
 | _=>e0
noncomputable def ifE:Option Stmt→List Stmt
 | some (.If _ _ e _)=>e
 | _=>[]
theorem len_nm{k n:Nat}{N:V}{bg x:Int}{p1 p2 p3:Pos}{H Hs:Hp}{E:EL}{ns:List Nm}(I:EvH H Hs n E ns)(hl:ns.length≤1000):Ev (pe3 P sa is) (k+2) (.e sc_ev (locX N n bg x) (.Call (.Name "len" p1) [.Name "names" p2] [] p3) H) (.v (.int ns.length) H):=by
 have:=fv_len (pe:=pe3 P sa is) I.nm (by rw[List.length_map]; exact toLim (by trivial))
 rw[List.length_map] at this
 exact ev_CallN (lk_glob (by decide) rfl glob_len) rfl (evL_cons rfl (ev_Name rfl) evL_nil) evKw_nil (c_bf this)
theorem cond_t{k n bg:Nat}{N:V}{x:Int}{H Hs:Hp}{E:EL}{ns:List Nm}(I:EvH H Hs n E ns)(hl:ns.length≤1000):Ev (pe3 P sa is) (k+20) (.t sc_ev (locX N n bg x) (ifC (bEv P)[1]?) H) (.b (cnd (x % 4) ns.length bg) H):=by
 unfold cnd
 cases h1:((bg:Int)==0) with
 | true=>exact tv_Bool (test_stop (tv_Cmp rfl (ev_Name rfl) (ev_Const rfl) (cmp_eqB h1)) rfl)
 | false =>
  refine tv_Bool (test_go (tv_Cmp rfl (ev_Name rfl) (ev_Const rfl) (cmp_eqB h1)) rfl ?_)
  cases h2:decide (x % 4<2) with
  | false=>exact test_go (tv_Bool (test_stop (tv_Cmp rfl (ev_Name rfl) (ev_Const rfl) (cmp_ltB h2)) rfl)) rfl test_nil
  | true =>
   cases h3:decide ((ns.length:Int)<6) with
   | false=>exact test_go (tv_Bool (test_go (tv_Cmp rfl (ev_Name rfl) (ev_Const rfl) (cmp_ltB h2)) rfl (test_stop (tv_Cmp rfl (len_nm I hl) (ev_Const rfl) (cmp_ltB h3)) rfl))) rfl test_nil
   | true =>
    cases h4:decide ((bg:Int)<10) with
    | false=>exact test_go (tv_Bool (test_go (tv_Cmp rfl (ev_Name rfl) (ev_Const rfl) (cmp_ltB h2)) rfl (test_go (tv_Cmp rfl (len_nm I hl) (ev_Const rfl) (cmp_ltB h3)) rfl (test_stop (tv_Cmp rfl (ev_Name rfl) (ev_Const rfl) (cmp_ltB h4)) rfl)))) rfl test_nil
    | true=>exact test_stop (tv_Bool (test_go (tv_Cmp rfl (ev_Name rfl) (ev_Const rfl) (cmp_ltB h2)) rfl (test_go (tv_Cmp rfl (len_nm I hl) (ev_Const rfl) (cmp_ltB h3)) rfl (test_go (tv_Cmp rfl (ev_Name rfl) (ev_Const rfl) (cmp_ltB h4)) rfl test_nil)))) rfl
theorem cond_e{k n:Nat}{bg:Int}{N:V}{x:Int}{H Hs:Hp}{E:EL}{ns:List Nm}(I:EvH H Hs n E ns)(hl:ns.length≤1000):Ev (pe3 P sa is) (k+20) (.t sc_ev (locX N n bg x) (ifC (ifE (bEv P)[1]?)[0]?) H) (.b (cnE (x % 4) ns.length) H):=by
 unfold cnE
 cases h1:(x % 4==2) with
 | false=>exact tv_Bool (test_stop (tv_Cmp rfl (ev_Name rfl) (ev_Const rfl) (cmp_eqB h1)) rfl)
 | true =>
  cases h2:decide ((ns.length:Int)>1) with
  | false=>exact tv_Bool (test_go (tv_Cmp rfl (ev_Name rfl) (ev_Const rfl) (cmp_eqB h1)) rfl (test_stop (tv_Cmp rfl (len_nm I hl) (ev_Const rfl) (cmp_gtB h2)) rfl))
  | true=>exact tv_Bool (test_go (tv_Cmp rfl (ev_Name rfl) (ev_Const rfl) (cmp_eqB h1)) rfl (test_go (tv_Cmp rfl (len_nm I hl) (ev_Const rfl) (cmp_gtB h2)) rfl test_nil))
end
section
variable {P:Params} {sa:Addr} {is:List Int}
theorem glob_range:(pe3 P sa is).glob "range"=some (.bf .range):=by kernel_rfl
theorem glob_divmod:(pe3 P sa is).glob "divmod"=some (.bf .divmod):=by kernel_rfl
theorem app_map{α:Type}(l:List α)(x:α)(f:α→V):l.map f++[f x]=(l++[x]).map f:=by rw[List.map_append]; rfl
theorem t_turn{k n:Nat}{N:V}{x:Int}{S:ES}{H Hs:Hp}{E:EL}(I:EvH H Hs n E S.ns)(hE:E.map (·.1)=S.ev)(hl:S.ns.length≤900)(hl2:E.length≤9000):
  Ex3_5 (fun H' E' ex=>EvH H' Hs n E' (S.step x).ns) (fun H' E' ex=>E'.map (·.1)=(S.step x).ev) (fun H' E' ex=>H.n≤H'.n) (fun H' E' ex=>E'.length=E.length+1) (fun H' E' ex=>Ev (pe3 P sa is) (k+70) (.xs sc_ev (bEv P) (locV N n S.bg++([("x",.int x)]:Loc)) H) (.f .next (locV N n (S.step x).bg++ex) H')):=by
 have hlt:=I.lt
 have m0:0≤x/4 % 4:=Int.emod_nonneg _ (by decide)
 have m1:x/4 % 4<4:=Int.emod_lt_of_pos _ (by decide)
 have hd0:∀ {fl lc h},Ev (pe3 P sa is) (k+70) (.xs sc_ev (bEv P).tail (locX N n S.bg x) H) (.f fl lc h)→Ev (pe3 P sa is) (k+70) (.xs sc_ev (bEv P) (locV N n S.bg++([("x",.int x)]:Loc)) H) (.f fl lc h):=fun {fl lc h} hz =>
  xs_cons (xv_Asg rfl (fun ι=>rfl) (ev_CallN (lk_glob (by decide) rfl glob_divmod) rfl (evL_cons rfl (ev_Name rfl) (evL_cons rfl (ev_Const rfl) evL_nil)) evKw_nil (c_bf (fv_divmod (by decide)))) (asgs_one rfl (asg_Tup rfl rfl))) hz
 have evl:(E.map evV).length<lim:=by rw[List.length_map]; exact ltLim (by trivial)
 have hc:=cond_t (P:=P) (sa:=sa) (is:=is) (k:=k+49) (bg:=S.bg) (N:=N) (x:=x) I (by trivial)
 by_cases c1:cnd (x % 4) S.ns.length S.bg=true
 ·rw[c1] at hc
  have es:S.step x=⟨S.ev++[.st (tagAt (x/4 % 4)) (atU (x/4) 4)],S.ns++[tagAt (x/4 % 4)],S.bg+1⟩:=if_pos c1
  rw[es]
  let H1:=H.alloc (.dict [])
  have n1:H1.n=H.n+1:=rfl
  have I1:EvH H1 Hs n E S.ns:=I.up (by trivial) fun j hj=>alloc_lt hj
  obtain ⟨H2,ex,a1,a2,a3,a4⟩:=attr_run (P:=P) (sa:=sa) (is:=is) (k:=k+28) (N:=N) (n:=n) (a:=H.n) (bg:=S.bg) (x:=x) (r:=x/4) (kd:=x % 4) hlt (left:=4) (p:=0) (H:=H1) rfl I1.ks I1.vs alloc_eq
  have I2:EvH H2 Hs n E S.ns:=⟨(a2 _ (by trivial)).trans I1.ks,(a2 _ (by trivial)).trans I1.vs,(a2 _ (by trivial)).trans I1.ts,(a2 _ (by trivial)).trans I1.ev,(a2 _ (by trivial)).trans I1.nm,fun p hp=>by
   obtain ⟨q1,q2,q3⟩:=I.ds p hp
   obtain ⟨_,_,q4⟩:=I1.ds p hp
   exact ⟨q1,by trivial,(a2 _ (by trivial)).trans q4⟩,by trivial,fun j hj=>(a2 _ (by trivial)).trans (I1.low j hj)⟩
  let H3:=H2.alloc (.list (t4.map fun m=>V.str m.q))
  have n3:H3.n=H.n+2:=congrArg (· + 1) a3
  have I3:EvH H3 Hs n E S.ns:=I2.up (Nat.le_succ _) fun j hj=>alloc_lt hj
  have I4:=I3.names (ns':=S.ns++[tagAt (x/4 % 4)])
  let H4:=H3.put (n+4) (.list ((S.ns++[tagAt (x/4 % 4)]).map fun m=>V.str m.q))
  have d4:H4.f H.n = .dict (kvsOf (atU (x/4) 4)):=(put_ne (by trivial)).trans ((alloc_lt (by rw[a3]; trivial)).trans a1)
  have I5:=I4.event (e := .st (tagAt (x/4 % 4)) (atU (x/4) 4)) (d:=H.n) ⟨hlt,by show H.n<H3.n; trivial⟩ d4
  have i1:index H3 (.ref H2.n) (.int (x/4 % 4))=some (.str (tagAt (x/4 % 4)).q):=(idx_list (xs:=t4.map fun m=>V.str m.q) alloc_eq).trans (at4 (l:=t4) (d:=nDA) rfl m0 m1)
  have i2:index H4 (.ref (n+4)) (.int (-1))=some (.str (tagAt (x/4 % 4)).q):=(idx_list put_eq).trans (atIdx_last (by rw[List.map_append]; exact List.getLast?_concat))
  refine ⟨_,_,[("x",.int x),("rest",.int (x/4)),("kind",.int (x % 4)),("attrs",.ref H.n)],I5,by rw[List.map_append,hE]; rfl,by show H.n≤H3.n; trivial,List.length_append,hd0 ?_⟩
  have p1:Prm H3 .lAppend (.ref (n+4)) [.str (tagAt (x/4 % 4)).q] .none H4:=pv_append I3.nm (by rw[List.length_map]; exact ltLim (by trivial)) (by rw[app_map S.ns (tagAt (x/4 % 4)) fun m=>V.str m.q])
  have p2:Prm H4 .lAppend (.ref (n+3)) [evV (.st (tagAt (x/4 % 4)) (atU (x/4) 4),H.n)] .none _:=pv_append I4.ev evl rfl
  exact xs_cons (xv_If hc (xs_cons (xv_Asg rfl (fun ι=>rfl) (ev_Dict0 rfl) (asgs_one rfl (asg_Name rfl))) (xs_cons (xv_ForR (lk_glob (by decide) rfl glob_range) (evL_cons rfl (ev_Const rfl) evL_nil) (.one (by decide)) a4) (xs_forget lk_app
   (xs_cons (xv_Expr rfl (ev_CallA rfl rfl (by decide) (ev_Name rfl) (attr_list I2.nm rfl) rfl (evL_cons rfl (ev_Idx rfl (ev_List (evL_cons rfl (ev_Const rfl) (evL_cons rfl (ev_Const rfl) (evL_cons rfl (ev_Const rfl) (evL_cons rfl (ev_Const rfl) evL_nil)))) (leR rfl) rfl) (ev_Bin (ev_Name rfl) (ev_Const rfl) (binR rfl)) i1) evL_nil) evKw_nil (c_bm p1)))
   (xs_cons (xv_Expr rfl (ev_CallA rfl rfl (by decide) (ev_Name rfl) (attr_list I4.ev rfl) rfl (evL_cons rfl (ev_Tuple (evL_cons rfl (ev_Const rfl) (evL_cons rfl (ev_Idx rfl (ev_Name rfl) (ev_Neg (ev_Const rfl)) i2) (evL_cons rfl (ev_Name rfl) evL_nil))) (leR rfl)) evL_nil) evKw_nil (c_bm p2)))
   (xs_cons (xv_Aug rfl rfl rfl (ev_Const rfl) (binR rfl)) xs_nil)))))))  xs_nil
 ·have c1':cnd (x % 4) S.ns.length S.bg=false:=Bool.eq_false_iff.mpr c1
  rw[c1'] at hc
  have he:=cond_e (P:=P) (sa:=sa) (is:=is) (k:=k+48) (bg:=S.bg) (N:=N) (x:=x) I (by trivial)
  by_cases c2:cnE (x % 4) S.ns.length=true
  ·rw[c2] at he
   have es:S.step x=⟨S.ev++[.en (S.ns.getLast?.getD nDA)],S.ns.dropLast,S.bg⟩:=(if_neg c1).trans (if_pos c2)
   rw[es]
   have hne:S.ns≠[]:=fun q=>by
    rw[q] at c2
    unfold cnE at c2
    exact noB (by rw[show decide (((([]:List Nm).length:Nat):Int)>1)=false from rfl,Bool.and_false] at c2; exact c2)
   have hlast:S.ns.getLast? = some (S.ns.getLast hne):=List.getLast?_eq_some_getLast hne
   rw[hlast]
   have I1:=I.names (ns':=S.ns.dropLast)
   let H1:=H.put (n+4) (.list (S.ns.dropLast.map fun m=>V.str m.q))
   let H2:=H1.alloc (.dict [])
   have n1:H1.n=H.n:=rfl
   have n2:H2.n=H.n+1:=rfl
   have I2:EvH H2 Hs n E S.ns.dropLast:=I1.up (by trivial) fun j hj=>alloc_lt hj
   have I3:=I2.event (e := .en (S.ns.getLast hne)) (d:=H.n) ⟨hlt,by trivial⟩ alloc_eq
   have p1:Prm H .lPop (.ref (n+4)) [] (.str (S.ns.getLast hne).q) H1:=pv_pop I.nm (by rw[List.getLast?_map,hlast]; rfl) (by rw[List.length_map]; exact toLim (by trivial)) (by rw[← List.map_dropLast])
   have p2:Prm H2 .lAppend (.ref (n+3)) [evV (.en (S.ns.getLast hne),H.n)] .none _:=pv_append I2.ev evl rfl
   refine ⟨_,_,[("x",.int x),("rest",.int (x/4)),("kind",.int (x % 4))],I3,by rw[List.map_append,hE]; rfl,by show H.n≤H2.n; trivial,List.length_append,hd0 ?_⟩
   exact xs_cons (xv_If hc (xs_cons (xv_If he (xs_cons (xv_Expr rfl (ev_CallA rfl rfl (by decide) (ev_Name rfl) (attr_list I.ev rfl) rfl (evL_cons rfl (ev_Tuple (evL_cons rfl (ev_Const rfl) (evL_cons rfl (ev_CallA rfl rfl (by decide) (ev_Name rfl) (attr_list I.nm rfl) rfl evL_nil evKw_nil (c_bm p1)) (evL_cons rfl (ev_Dict0 rfl) evL_nil))) (leR rfl)) evL_nil) evKw_nil (c_bm p2))) xs_nil)) xs_nil)) xs_nil
  ·have c2':cnE (x % 4) S.ns.length=false:=Bool.eq_false_iff.mpr c2
   rw[c2'] at he
   have es:S.step x=⟨S.ev++[.tx (txtAt (x/4 % 4))],S.ns,S.bg⟩:=(if_neg c1).trans (if_neg c2)
   rw[es]
   let H2:=H.alloc (.dict [])
   have n2:H2.n=H.n+1:=rfl
   have I2:EvH H2 Hs n E S.ns:=I.up (by trivial) fun j hj=>alloc_lt hj
   have I3:=I2.event (e := .tx (txtAt (x/4 % 4))) (d:=H.n) ⟨hlt,by trivial⟩ alloc_eq
   have i1:index H (.ref (n+2)) (.int (x/4 % 4))=some (.str (txtAt (x/4 % 4))):=(idx_list I.ts).trans (at4 (l:=txts4) (d:=Str.empty) rfl m0 m1)
   have p2:Prm H2 .lAppend (.ref (n+3)) [evV (.tx (txtAt (x/4 % 4)),H.n)] .none _:=pv_append I2.ev evl rfl
   refine ⟨_,_,[("x",.int x),("rest",.int (x/4)),("kind",.int (x % 4))],I3,by rw[List.map_append,hE]; rfl,by show H.n≤H2.n; trivial,List.length_append,hd0 ?_⟩
   exact xs_cons (xv_If hc (xs_cons (xv_If he (xs_cons (xv_Expr rfl (ev_CallA rfl rfl (by decide) (ev_Name rfl) (attr_list I.ev rfl) rfl (evL_cons rfl (ev_Tuple (evL_cons rfl (ev_Const rfl) (evL_cons rfl (ev_Idx rfl (ev_Name rfl) (ev_Bin (ev_Name rfl) (ev_Const rfl) (binR rfl)) i1) (evL_cons rfl (ev_Dict0 rfl) evL_nil))) (leR rfl)) evL_nil) evKw_nil (c_bm p2))) xs_nil)) xs_nil)) xs_nil
end
section
variable {P:Params} {sa:Addr} {is:List Int}
noncomputable def ES.run(S:ES)(xs:List Int):ES:=xs.foldl ES.step S
theorem step_len(S:ES)(x:Int):(S.step x).ns.length≤S.ns.length+1:=by
 unfold ES.step
 by_cases c1:cnd (x % 4) S.ns.length S.bg=true
 ·rw[if_pos c1]; exact Nat.le_of_eq List.length_append
 ·rw[if_neg c1]
  by_cases c2:cnE (x % 4) S.ns.length=true
  ·rw[if_pos c2]
   show S.ns.dropLast.length≤_
   rw[List.length_dropLast]; exact Nat.le_trans (Nat.sub_le _ _) (Nat.le_succ _)
  ·rw[if_neg c2]; exact Nat.le_succ _
theorem evL_loop{k n:Nat}{N:V}{Hs:Hp}{xs:List Int}:∀ {S:ES} {H:Hp} {E:EL},EvH H Hs n E S.ns→E.map (·.1)=S.ev→S.ns.length+xs.length≤900→E.length+xs.length≤9000 →
  Ex3_6 (fun H' E' ex=>EvH H' Hs n E' (S.run xs).ns) (fun H' E' ex=>E'.map (·.1)=(S.run xs).ev) (fun H' E' ex=>H.n≤H'.n) (fun H' E' ex=>E'.length=E.length+xs.length) (fun H' E' ex=>(S.run xs).ns.length≤900) (fun H' E' ex=>Ev (pe3 P sa is) (k+70) (.forL sc_ev (tEv P) (bEv P) (xs.map .int) (locV N n S.bg) H) (.f .next (locV N n (S.run xs).bg++ex) H')):=by
 induction xs with
 | nil=>exact fun {S H E} I hE h1 ι=>⟨H,E,[],I,hE,Nat.le_refl _,rfl,h1,forL_nil⟩
 | cons x xs ih =>
  intro S H E I hE h1 h2
  rw[List.length_cons] at h1 h2
  obtain ⟨H1,E1,ex1,a1,a2,a3,a4,a5⟩:=t_turn (P:=P) (sa:=sa) (is:=is) (k:=k) (N:=N) (x:=x) I hE (by trivial) (by trivial)
  have hs:=step_len S x
  obtain ⟨H',E',ex,b1,b2,b3,b4,b5,b6⟩:=ih (S:=S.step x) a1 a2 (by trivial) (by trivial)
  exact ⟨H',E',ex,b1,b2,by trivial,by rw[b4,a4,List.length_cons]; trivial,b5,forL_cons (loc1:=locV N n S.bg++([("x",.int x)]:Loc)) rfl a5 rfl (forL_forget lk_app b6)⟩
theorem evR_loop{k n i:Nat}{N:V}{Hs Hi:Hp}(hi:i<n){xs:List Int}(hHi:Hi.f i=Hs.f i):∀ {S:ES} {H:Hp} {E:EL},EvH H Hs n E S.ns→E.map (·.1)=S.ev→S.ns.length+xs.length≤900→E.length+xs.length≤9000 →
  Ex3_6 (fun H' E' ex=>EvH H' Hs n E' (S.run xs).ns) (fun H' E' ex=>E'.map (·.1)=(S.run xs).ev) (fun H' E' ex=>H.n≤H'.n) (fun H' E' ex=>E'.length=E.length+xs.length) (fun H' E' ex=>(S.run xs).ns.length≤900) (fun H' E' ex=>Ev (pe3 P sa is) (k+70) (.for sc_ev (tEv P) (bEv P) (some i) Hi (xs.map .int) (locV N n S.bg) H) (.f .next (locV N n (S.run xs).bg++ex) H')):=by
 induction xs with
 | nil=>exact fun {S H E} I hE h1 ι=>⟨H,E,[],I,hE,Nat.le_refl _,rfl,h1,for_nil⟩
 | cons x xs ih =>
  intro S H E I hE h1 h2
  rw[List.length_cons] at h1 h2
  obtain ⟨H1,E1,ex1,a1,a2,a3,a4,a5⟩:=t_turn (P:=P) (sa:=sa) (is:=is) (k:=k) (N:=N) (x:=x) I hE (by trivial) (by trivial)
  have hs:=step_len S x
  obtain ⟨H',E',ex,b1,b2,b3,b4,b5,b6⟩:=ih (S:=S.step x) a1 a2 (by trivial) (by trivial)
  exact ⟨H',E',ex,b1,b2,by trivial,by rw[b4,a4,List.length_cons]; trivial,b5,for_go (fl := .next) (H1:=H1) (loc2:=locV N n (S.step x).bg++ex1) ⟨_,rfl,a5⟩ rfl (for_forget lk_app b6) ((a1.low i hi).trans hHi.symm)⟩
noncomputable def whC(o:Option Stmt):Expr:=(sO o).1
noncomputable def whB(o:Option Stmt):List Stmt:=(sO o).2.1
noncomputable abbrev tW(P:Params):Expr:=whC (bodyAt (hd.heap_39 P) 175)[7]?
noncomputable abbrev bW(P:Params):List Stmt:=whB (bodyAt (hd.heap_39 P) 175)[7]?
theorem ev_close{k n:Nat}{N:V}{bg:Int}{Hs:Hp}{m:Nat}:∀ {ns:List Nm} {H:Hp} {E:EL},ns.length=m→EvH H Hs n E ns→E.length+m≤9900→m≤900 →
  Ex2_4 (fun H' E'=>EvH H' Hs n E' []) (fun H' E'=>E'.map (·.1)=E.map (·.1)++ns.reverse.map .en) (fun H' E'=>H.n≤H'.n) (fun H' E'=>EvW (pe3 P sa is) (k+70) sc_ev (tW P) (bW P) m (locV N n bg) H (locV N n bg) H'):=by
 induction m with
 | zero =>
  intro ns H E hm I _ _
  have e:ns=[]:=List.length_eq_zero_iff.mp hm
  subst e
  have:=I.lt
  refine ⟨H.alloc (.list []),E,I.up (Nat.le_succ _) fun j hj=>alloc_lt hj,(List.append_nil _).symm,Nat.le_succ _,EvW.zero ?_⟩
  have hc:=Cmp.ne (EqV.list0 (H:=H.alloc (.list [])) (i:=n+4) (j:=H.n) (xs:=[]) ((alloc_lt I.lt).trans I.nm) alloc_eq)
  exact tv_Cmp rfl (ev_Name rfl) (ev_List evL_nil (leR rfl) rfl) hc
 | succ m ih =>
  intro ns H E hm I h1 h2
  have hlt:=I.lt
  have hne:ns≠[]:=fun e=>by rw[e] at hm; exact absurd hm (by show ¬ 0=m+1; trivial)
  have hlast:ns.getLast? = some (ns.getLast hne):=List.getLast?_eq_some_getLast hne
  let A:=H.alloc (.list [])
  have nA:A.n=H.n+1:=rfl
  have IA:EvH A Hs n E ns:=I.up (Nat.le_succ _) fun j hj=>alloc_lt hj
  have I1:=IA.names (ns':=ns.dropLast)
  let H1:=A.put (n+4) (.list (ns.dropLast.map fun m=>V.str m.q))
  let H2:=H1.alloc (.dict [])
  have n1:H1.n=H.n+1:=rfl
  have n2:H2.n=H.n+2:=rfl
  have I2:EvH H2 Hs n E ns.dropLast:=I1.up (by trivial) fun j hj=>alloc_lt hj
  have I3:=I2.event (e := .en (ns.getLast hne)) (d:=H1.n) ⟨by trivial,by trivial⟩ alloc_eq
  obtain ⟨H',E',b1,b2,b3,b4⟩:=ih (by rw[List.length_dropLast,hm]; rfl) I3 (by rw[List.length_append]; show E.length+1+m≤_; trivial) (by trivial)
  have p1:Prm A .lPop (.ref (n+4)) [] (.str (ns.getLast hne).q) H1:=pv_pop IA.nm (by rw[List.getLast?_map,hlast]; rfl) (by rw[List.length_map]; exact toLim (by trivial)) (by rw[← List.map_dropLast])
  have p2:Prm H2 .lAppend (.ref (n+3)) [evV (.en (ns.getLast hne),H1.n)] .none _:=pv_append I2.ev (by rw[List.length_map]; exact ltLim (by trivial)) rfl
  have hc:=Cmp.ne (EqV.list0 (H:=A) (i:=n+4) (j:=H.n) (xs:=ns.map fun m=>V.str m.q) IA.nm alloc_eq)
  have he:(!(ns.map fun m=>V.str m.q).isEmpty)=true:=by
   rw[List.isEmpty_map]
   cases ns with
   | nil=>exact absurd rfl hne
   | cons _ _=>rfl
  rw[he] at hc
  refine ⟨H',E',b1,?_,by have:H1.n+1≤H'.n:=b3; trivial,EvW.succ (tv_Cmp rfl (ev_Name rfl) (ev_List evL_nil (leR rfl) rfl) hc) ?_ b4⟩
  ·rw[b2,List.map_append,List.append_assoc]
   have e:ns=ns.dropLast++[ns.getLast hne]:=(List.dropLast_concat_getLast hne).symm
   refine congrArg (fun l=>E.map (·.1)++l) ?_
   rw[show ns.reverse=ns.getLast hne::ns.dropLast.reverse from by
    have:=congrArg List.reverse e
    rw[List.reverse_append] at this
    exact this]
   rfl
  ·exact xs_cons (xv_Expr rfl (ev_CallA rfl rfl (by decide) (ev_Name rfl) (attr_list IA.ev rfl) rfl (evL_cons rfl (ev_Tuple (evL_cons rfl (ev_Const rfl) (evL_cons rfl (ev_CallA rfl rfl (by decide) (ev_Name rfl) (attr_list IA.nm rfl) rfl evL_nil evKw_nil (c_bm p1)) (evL_cons rfl (ev_Dict0 rfl) evL_nil))) (leR rfl)) evL_nil) evKw_nil (c_bm p2))) xs_nil
end
section
variable {P:Params} {sa:Addr} {is:List Int}
noncomputable def S0:ES:=⟨[],[],0⟩
noncomputable def evsOf(xs:List Int):List Et:=(S0.run xs).ev++(S0.run xs).ns.reverse.map .en
noncomputable def hV(H:Hp):Hp:=((((H.alloc (.list (k4.map fun m=>V.str m.q))).alloc (.list (vals4.map .str))).alloc (.list (txts4.map .str))).alloc (.list [])).alloc (.list [])
theorem hV_ok{H:Hp}:EvH (hV H) H H.n [] []:=by
 refine ⟨?_,?_,?_,?_,?_,fun p hp=>(nomatch hp),Nat.lt_succ_self _,fun j hj => ?_⟩
 ·exact (alloc_lt (show H.n<H.n+4 by trivial)).trans ((alloc_lt (show H.n<H.n+3 by trivial)).trans ((alloc_lt (show H.n<H.n+2 by trivial)).trans ((alloc_lt (show H.n<H.n+1 by trivial)).trans alloc_eq)))
 ·exact (alloc_lt (show H.n+1<H.n+4 by trivial)).trans ((alloc_lt (show H.n+1<H.n+3 by trivial)).trans ((alloc_lt (show H.n+1<H.n+2 by trivial)).trans alloc_eq))
 ·exact (alloc_lt (show H.n+2<H.n+4 by trivial)).trans ((alloc_lt (show H.n+2<H.n+3 by trivial)).trans alloc_eq)
 ·exact (alloc_lt (show H.n+3<H.n+4 by trivial)).trans alloc_eq
 ·exact alloc_eq
 ·exact (alloc_lt (show j<H.n+4 by trivial)).trans ((alloc_lt (show j<H.n+3 by trivial)).trans ((alloc_lt (show j<H.n+2 by trivial)).trans ((alloc_lt (show j<H.n+1 by trivial)).trans (alloc_lt hj))))
theorem ev_head{k:Nat}{N:V}{H:Hp}{fl:Fl}{lc:Loc}{H':Hp}(hz:Ev (pe3 P sa is) (k+80) (.xs sc_ev ((bodyAt (hd.heap_39 P) 175).drop 6) (locV N H.n 0) (hV H)) (.f fl lc H')):Ev (pe3 P sa is) (k+80) (.xs sc_ev (bodyAt (hd.heap_39 P) 175) [("numbers",N)] H) (.f fl lc H') :=
 xs_cons (xv_Asg rfl (fun ι=>rfl) (ev_List (evL_cons rfl (ev_Const rfl) (evL_cons rfl (ev_Const rfl) (evL_cons rfl (ev_Const rfl) (evL_cons rfl (ev_Const rfl) evL_nil)))) (leR rfl) rfl) (asgs_one rfl (asg_Name rfl)))
  (xs_cons (xv_Asg rfl (fun ι=>rfl) (ev_List (evL_cons rfl (ev_Const rfl) (evL_cons rfl (ev_Const rfl) (evL_cons rfl (ev_Const rfl) (evL_cons rfl (ev_Const rfl) evL_nil)))) (leR rfl) rfl) (asgs_one rfl (asg_Name rfl)))
  (xs_cons (xv_Asg rfl (fun ι=>rfl) (ev_List (evL_cons rfl (ev_Const rfl) (evL_cons rfl (ev_Const rfl) (evL_cons rfl (ev_Const rfl) (evL_cons rfl (ev_Const rfl) evL_nil)))) (leR rfl) rfl) (asgs_one rfl (asg_Name rfl)))
  (xs_cons (xv_Asg rfl (fun ι=>rfl) (ev_List evL_nil (leR rfl) rfl) (asgs_one rfl (asg_Name rfl)))
  (xs_cons (xv_Asg rfl (fun ι=>rfl) (ev_List evL_nil (leR rfl) rfl) (asgs_one rfl (asg_Name rfl)))
  (xs_cons (xv_Asg rfl (fun ι=>rfl) (ev_Const rfl) (asgs_one rfl (asg_Name rfl))) hz)))))
theorem ev_tail{k n:Nat}{N:V}{bg:Int}{ex:Loc}{Hs H:Hp}{E:EL}{ns:List Nm}(I:EvH H Hs n E ns)(h1:E.length≤1000)(h2:ns.length≤900):
  Ex3_3 (fun H' E' lc=>EvH H' Hs n E' []) (fun H' E' lc=>E'.map (·.1)=E.map (·.1)++ns.reverse.map .en) (fun H' E' lc=>Ev (pe3 P sa is) (k+80) (.xs sc_ev ((bodyAt (hd.heap_39 P) 175).drop 7) (locV N n bg++ex) H) (.f (.ret (.ref (n+3))) lc H')):=by
 obtain ⟨H',E',a1,a2,a3,a4⟩:=ev_close (P:=P) (sa:=sa) (is:=is) (k:=k+9) (N:=N) (bg:=bg) rfl I (by trivial) h2
 exact ⟨H',E',_,a1,a2,xs_forget lk_app (xs_cons (xv_While a4) (xs_stop (xv_Ret (ev_Name rfl)) rfl))⟩
theorem t_eventsL{k:Nat}{H:Hp}{a:Addr}{xs:List Int}(hl:(pe3 P sa is).lst a=some xs)(h63:xs.length≤63):
  Ex2_3 (fun H' E=>EvH H' H H.n E []) (fun H' E=>E.map (·.1)=evsOf xs) (fun H' E=>Ev (pe3 P sa is) (k+90) (.c (.fn 175) [.fn a] [] H) (.v (.ref (H.n+3)) H')):=by
 obtain ⟨H1,E1,ex,a1,a2,a3,a4,a5,a6⟩:=evL_loop (P:=P) (sa:=sa) (is:=is) (k:=k+18) (n:=H.n) (N := .fn a) (Hs:=H) (xs:=xs) (S:=S0) (H:=hV H) (E:=[]) hV_ok rfl (by show 0+_≤_; trivial) (by show 0+_≤_; trivial)
 obtain ⟨H',E',lc,b1,b2,b3⟩:=ev_tail (P:=P) (sa:=sa) (is:=is) (k:=k+9) (N := .fn a) (bg:=(S0.run xs).bg) (ex:=ex) a1 (by rw[a4]; show 0+_≤_; trivial) a5
 exact ⟨H',E',b1,by rw[b2,a2]; rfl,c_fn (init_none (by decide)) (run_fn (fn_events P sa is) .events body_ev nm_ev (ev_head (k:=k+9) (xs_cons (xv_ForL rfl (ev_Name rfl) hl a6) b3)) rfl)⟩
theorem t_eventsR{k i:Nat}{H:Hp}{xs:List Int}(hi:i<H.n)(hl:H.f i = .list (xs.map .int))(h63:xs.length≤63):
  Ex2_3 (fun H' E=>EvH H' H H.n E []) (fun H' E=>E.map (·.1)=evsOf xs) (fun H' E=>Ev (pe3 P sa is) (k+90) (.c (.fn 175) [.ref i] [] H) (.v (.ref (H.n+3)) H')):=by
 have hV0:=hV_ok (H:=H)
 obtain ⟨H1,E1,ex,a1,a2,a3,a4,a5,a6⟩:=evR_loop (P:=P) (sa:=sa) (is:=is) (k:=k+18) (n:=H.n) (i:=i) (N := .ref i) (Hs:=H) (Hi:=hV H) hi (xs:=xs) (hV0.low i hi) (S:=S0) (H:=hV H) (E:=[]) hV0 rfl (by show 0+_≤_; trivial) (by show 0+_≤_; trivial)
 obtain ⟨H',E',lc,b1,b2,b3⟩:=ev_tail (P:=P) (sa:=sa) (is:=is) (k:=k+9) (N := .ref i) (bg:=(S0.run xs).bg) (ex:=ex) a1 (by rw[a4]; show 0+_≤_; trivial) a5
 exact ⟨H',E',b1,by rw[b2,a2]; rfl,c_fn (init_none (by decide)) (run_fn (fn_events P sa is) .events body_ev nm_ev (ev_head (k:=k+9) (xs_cons (xv_For rfl (ev_Name rfl) (items_ref ((hV0.low i hi).trans hl)) a6) b3)) rfl)⟩
end
section
variable {P:Params} {sa:Addr} {is:List Int}
noncomputable def isSt:Et→Bool
 | .st _ _=>true
 | _=>false
noncomputable def colE(d:Nat):List Et→List Et:=fun E=>E.rec (motive:=fun ι=>Nat→List Et) (fun ι=>[]) (fun p ι r d=>p::(match p with
 | .st _ _=>r (d+1)
 | .en _=>match d with
  | 0=>[]
  | d+1=>r d
 | .tx _=>r d)) d
noncomputable def skipE(j:Nat):List Et→List Et:=fun E=>E.rec (motive:=fun ι=>Nat→List Et) (fun ι=>[]) (fun p t r j=>match p with
 | .st _ _=>match j with
  | 0=>p::colE 0 t
  | j+1=>r j
 | _=>r j) j
theorem colG_map{E:EL}:∀ {d:Nat},(colG d E).map (·.1)=colE d (E.map (·.1)):=by
 induction E with
 | nil=>exact fun {d}=>rfl
 | cons p E ih =>
  intro d
  obtain ⟨e,n⟩:=p
  cases e with
  | st m l=>exact congrArg (Et.st m l :: ·) (ih (d:=d+1))
  | tx x=>exact congrArg (Et.tx x :: ·) (ih (d:=d))
  | en m=>cases d with
   | zero=>rfl
   | succ d=>exact congrArg (Et.en m :: ·) (ih (d:=d))
theorem skipG_map{E:EL}:∀ {j:Nat},(skipG j E).map (·.1)=skipE j (E.map (·.1)):=by
 induction E with
 | nil=>exact fun {d}=>rfl
 | cons p E ih =>
  intro j
  obtain ⟨e,n⟩:=p
  cases e with
  | st m l=>cases j with
   | zero=>exact congrArg (Et.st m l :: ·) (colG_map (E:=E) (d:=0))
   | succ j=>exact ih
  | tx x=>exact ih
  | en m=>exact ih
theorem colG_sub{E:EL}:∀ {d:Nat},∀ p∈colG d E,p∈E:=by
 induction E with
 | nil=>exact fun {d} p h=>nomatch (show p∈([]:EL) from h)
 | cons q E ih =>
  intro d p hp
  obtain ⟨e,n⟩:=q
  cases e with
  | st m l=>exact (List.mem_cons.mp (show p∈_::colG (d+1) E from hp)).elim (fun e=>e ▸ .head _) fun h => .tail _ (ih p h)
  | tx x=>exact (List.mem_cons.mp (show p∈_::colG d E from hp)).elim (fun e=>e ▸ .head _) fun h => .tail _ (ih p h)
  | en m=>cases d with
   | zero=>exact (List.mem_cons.mp (show p∈_::([]:EL) from hp)).elim (fun e=>e ▸ .head _) fun h=>nomatch h
   | succ d=>exact (List.mem_cons.mp (show p∈_::colG d E from hp)).elim (fun e=>e ▸ .head _) fun h => .tail _ (ih p h)
theorem skipG_sub{E:EL}:∀ {j:Nat},∀ p∈skipG j E,p∈E:=by
 induction E with
 | nil=>exact fun {d} p h=>nomatch (show p∈([]:EL) from h)
 | cons q E ih =>
  intro j p hp
  obtain ⟨e,n⟩:=q
  cases e with
  | st m l=>cases j with
   | zero=>exact (List.mem_cons.mp (show p∈_::colG 0 E from hp)).elim (fun e=>e ▸ .head _) fun h => .tail _ (colG_sub p h)
   | succ j=>exact .tail _ (ih (j:=j) p hp)
  | tx x=>exact .tail _ (ih (j:=j) p hp)
  | en m=>exact .tail _ (ih (j:=j) p hp)
noncomputable def told(E:List Et):Str:=cat (T0.evs E).out
structure LawP (E:List Et):Prop where
 good:GoodE T0 E
 wl:(told E).length≤1000000
 len:E.length≤1000
 one:1≤(E.filter isSt).length
 tok:Ex2_4 (fun x T=>Txt.split (told E) "<"=x::List.map Hd.tok T) (fun x T=>(∀ h∈T,HdOk h)) (fun x T=>T.length≤800) (fun x T=>∀ j,GoodE T0 (skipE j E)∧told (skipE j E)=cat (cutK (saidT [] T) T j)∧(told (skipE j E)).length≤10000000)
structure EvK (H:Hp) (ie:Nat) (E:EL):Prop where
 z:H.f 0=H0.f 0
 lt:ie<H.n
 ev:H.f ie = .list (E.map evV)
 ds:∀ p∈E,p.2<H.n∧H.f p.2 = .dict p.1.ats
theorem EvK.up{H H':Hp}{ie:Nat}{E:EL}(K:EvK H ie E)(hn:H.n≤H'.n)(h:∀ j,j<H.n→H'.f j=H.f j):EvK H' ie E :=
 ⟨(h 0 (by have:=K.lt; trivial)).trans K.z,by have:=K.lt; trivial,(h _ K.lt).trans K.ev,fun p hp=>let ⟨a,b⟩:=K.ds p hp; ⟨by trivial,(h _ a).trans b⟩⟩
noncomputable def sc_law3:Sc:=[("script",.local),("events",.local),("whole",.local),("begun",.local),("place",.local),("_law_events",.globalImplicit),("_law_told",.globalImplicit),("len",.globalImplicit),("range",.globalImplicit),("_law_part",.globalImplicit),("_law_cut",.globalImplicit)]
theorem nm_law3:(fdAt (hd.heap_39 P) 206).scope.names=sc_law3:=by kernel_rfl
theorem body_law3:(fdAt (hd.heap_39 P) 206).body = .stmts (bodyAt (hd.heap_39 P) 206):=by kernel_rfl
theorem glob_ev:(pe3 P sa is).glob "_law_events"=some (.fn 175):=by kernel_rfl
theorem glob_told:(pe3 P sa is).glob "_law_told"=some (.fn 182):=by kernel_rfl
theorem glob_part:(pe3 P sa is).glob "_law_part"=some (.fn 189):=by kernel_rfl
theorem glob_cut:(pe3 P sa is).glob "_law_cut"=some (.fn 201):=by kernel_rfl
noncomputable abbrev tL(P:Params):Expr:=forT (bodyAt (hd.heap_39 P) 206)[3]?
noncomputable abbrev bL(P:Params):List Stmt:=forB (bodyAt (hd.heap_39 P) 206)[3]?
theorem law_loop{k ie c:Nat}{sv:V}{bg:Int}{E:EL}(L:LawP (E.map (·.1))){left:Nat}:∀ {j:Nat} {H:Hp},EvK H ie E →
  Ex2_2 (fun H' ex=>EvK H' ie E) (fun H' ex=>EvR (pe3 P sa is) (k+110) sc_law3 (tL P) (bL P) c (j:Int) left [("script",sv),("events",.ref ie),("whole",.str (told (E.map (·.1)))),("begun",.int bg)] H .next (([("script",sv),("events",.ref ie),("whole",.str (told (E.map (·.1)))),("begun",.int bg)]:Loc)++ex) H'):=by
 obtain ⟨x0,T,t1,t2,t3,t4⟩:=L.tok
 induction left with
 | zero=>exact fun {j H} K=>⟨H,[],K,EvR.nil⟩
 | succ left ih =>
  intro j H K
  have hz:=K.lt
  obtain ⟨H1,a1,a2,a3,a4⟩:=t_part (P:=P) (sa:=sa) (is:=is) (k:=k+56) (j:=j) K.lt K.ev (by have:=L.len; rwa [List.length_map] at this)
  have K1:EvK H1 ie E:=K.up (by trivial) a2
  obtain ⟨g1,g2,g3⟩:=t4 j
  obtain ⟨H2,b1,b2,b3⟩:=t_told (P:=P) (sa:=sa) (is:=is) (k:=k+27) (i:=H.n) (H:=H1) (E:=skipG j E) (by trivial) K1.z (by trivial) a1 (fun p hp=>K1.ds p (skipG_sub p hp)) (by rw[skipG_map]; exact g1) (by rw[skipG_map]; exact g3)
  rw[skipG_map] at b3
  have K2:EvK H2 ie E:=K1.up b2 b1
  obtain ⟨H',ex,c1,c2⟩:=ih (j:=j+c) (H:=H2) K2
  have hcut:=t_cut (P:=P) (sa:=sa) (is:=is) (k:=k+17) (j:=j) (H:=H2) L.wl t1 t2 t3 (by rw[← g2]; exact g3) K2.z (by have:=K2.lt; trivial)
  rw[← g2] at hcut
  have hc:Cmp H2 .NotEq (.str (told (skipE j (E.map (·.1))))) (.str (told (skipE j (E.map (·.1))))) false:=by
   have:=Cmp.ne (H:=H2) (EqV.str (x:=told (skipE j (E.map (·.1)))) (y:=told (skipE j (E.map (·.1)))))
   rwa [beq_self_eq_true] at this
  refine ⟨H',ex,c1,EvR.cons (fl := .next) (loc1:=([("script",sv),("events",.ref ie),("whole",.str (told (E.map (·.1)))),("begun",.int bg)]:Loc)++([("place",.int j)]:Loc)) (loc2:=([("script",sv),("events",.ref ie),("whole",.str (told (E.map (·.1)))),("begun",.int bg)]:Loc)++([("place",.int j)]:Loc)) (H1:=H2) rfl ?_ rfl (EvR.forget lk_app c2)⟩
  exact xs_cons (xv_If (tv_Cmp rfl (ev_CallN (lk_glob (by decide) rfl glob_told) (ca_fn (fn_told P sa is)) (evL_cons rfl (ev_CallN (lk_glob (by decide) rfl glob_part) (ca_fn (fn_part P sa is)) (evL_cons rfl (ev_Name rfl) (evL_cons rfl (ev_Name rfl) evL_nil)) evKw_nil a4) evL_nil) evKw_nil b3) (ev_CallN (lk_glob (by decide) rfl glob_cut) (ca_fn (fn_cut P sa is)) (evL_cons rfl (ev_Name rfl) (evL_cons rfl (ev_Name rfl) evL_nil)) evKw_nil hcut) hc) xs_nil) xs_nil
end
section
variable {P:Params} {sa:Addr} {is:List Int}
theorem filt_st(E:EL):(E.filter fun p=>isSt p.1).length=((E.map (·.1)).filter isSt).length:=by
 rw[List.filter_map,List.length_map]; rfl
theorem kd_st(e:Et):(e.kd==("start":Str))=isSt e:=by
 cases e with
 | st m l=>rfl
 | en m=>rfl
 | tx x=>rfl
theorem law_tail{k ie:Nat}{sv:V}{E:EL}{H:Hp}(L:LawP (E.map (·.1)))(K:EvK H ie E):
  Ex2_2 (fun H' lc=>H'.f 0=H0.f 0) (fun H' lc=>Ev (pe3 P sa is) (k+120) (.xs sc_law3 ((bodyAt (hd.heap_39 P) 206).drop 1) [("script",sv),("events",.ref ie)] H) (.f (.ret (.bool true)) lc H')):=by
 have hz:=K.lt
 have hlen:=L.len
 rw[List.length_map] at hlen
 obtain ⟨H2,b1,b2,b3⟩:=t_told (P:=P) (sa:=sa) (is:=is) (k:=k+38) (i:=ie) (H:=H) (E:=E) (by trivial) K.z hz K.ev K.ds L.good (by have:=L.wl; exact Nat.le_trans this (by decide))
 have K2:EvK H2 ie E:=K.up b2 b1
 let H3:=H2.alloc (.list ((E.filter fun p=>isSt p.1).map evV))
 have K3:EvK H3 ie E:=K2.up (Nat.le_succ _) fun j hj=>alloc_lt hj
 have hfl:(E.filter fun p=>isSt p.1).length≤1000:=Nat.le_trans (List.length_filter_le _ _) hlen
 have h1:1≤(E.filter fun p=>isSt p.1).length:=by rw[filt_st]; exact L.one
 let bg:Nat:=(E.filter fun p=>isSt p.1).length
 let c:Nat:=1+(bg-1)/3
 have ec:(1:Int)+((bg:Int)-1)/3=(c:Int):=by
  show (1:Int)+((bg:Int)-1)/3=((1+(bg-1)/3:Nat):Int)
  rw[Int.natCast_add,Int.natCast_ediv,Int.natCast_sub h1]; rfl
 obtain ⟨H',ex,c1,c2⟩:=law_loop (P:=P) (sa:=sa) (is:=is) (k:=k+9) (ie:=ie) (c:=c) (sv:=sv) (bg:=(bg:Int)) L (left:=if (0:Int)<(bg:Int) then (((bg:Int)-0-1)/(c:Int)+1).toNat else 0) (j:=0) (H:=H3) K3
 have hln:PrF (pe3 P sa is) H3 .len [.ref H2.n] (.int bg) H3:=by
  have:=fv_len (pe:=pe3 P sa is) (H:=H3) (i:=H2.n) (xs:=(E.filter fun p=>isSt p.1).map evV) alloc_eq (by rw[List.length_map]; exact toLim (by trivial))
  rwa [List.length_map] at this
 have hbin:binS .Add (.int 1) (.int (((bg:Int)-1)/3))=some (.int (c:Int)):=congrArg (fun x=>some (V.int x)) ec
 have hc3:0<(c:Int)∧(c:Int)<100000:=by
  have hb:bg≤1000:=hfl
  have:c≤1000:=by show 1+(bg-1)/3≤1000; trivial
  have:1≤c:=Nat.le_add_right _ _
  trivial
 have hb3:0≤(bg:Int)∧(bg:Int)<100000:=by
  have hb:bg≤1000:=hfl
  trivial
 refine ⟨H',[("script",sv),("events",.ref ie),("whole",.str (told (E.map (·.1)))),("begun",.int bg)],c1.z,?_⟩
 exact xs_cons (xv_Asg rfl (fun ι=>rfl) (ev_CallN (lk_glob (by decide) rfl glob_told) (ca_fn (fn_told P sa is)) (evL_cons rfl (ev_Name rfl) evL_nil) evKw_nil b3) (asgs_one rfl (asg_Name rfl)))
  (xs_cons (xv_Asg rfl (fun ι=>rfl) (ev_CallN (lk_glob (by decide) rfl glob_len) rfl (evL_cons rfl (ev_Comp (ev_LC rfl rfl (ev_Name rfl) (items_ref K2.ev) rfl (cl_filter (v:=evV) (c:=fun p=>isSt p.1) (fun p ι=>⟨_,rfl,ifs_one (tv_Cmp rfl (ev_Idx rfl (ev_Name rfl) (ev_Const rfl) rfl) (ev_Const rfl) (kd_st p.1 ▸ .eq .str)),in_el (ev_Name rfl)⟩) rfl) (by rw[List.length_map]; exact toLim (by trivial)) rfl)) evL_nil) evKw_nil (c_bf hln)) (asgs_one rfl (asg_Name rfl)))
  (xs_cons (xv_ForR (lk_glob (by decide) rfl glob_range) (evL_cons rfl (ev_Const rfl) (evL_cons rfl (ev_Name rfl) (evL_cons rfl (ev_Bin (ev_Const rfl) (ev_Bin (ev_Bin (ev_Name rfl) (ev_Const rfl) (binR rfl)) (ev_Const rfl) (binR rfl)) (binR hbin)) evL_nil))) (.three ⟨by decide,by decide⟩ hb3 hc3) c2)
  (xs_forget lk_app (xs_stop (xv_Ret (ev_Const rfl)) rfl))))
theorem lst_eq:(pe3 P sa is).lst sa=some is:=if_pos rfl
noncomputable def numsE:List Int:=[96,21,2,5,162,3,2,69]
theorem EvH.kept{H Hs:Hp}{n:Nat}{E:EL}(I:EvH H Hs n E [])(hz:Hs.f 0=H0.f 0)(hn:0<n):EvK H (n+3) E :=
 ⟨(I.low 0 hn).trans hz,by have:=I.lt; trivial,I.ev,fun p hp=>let ⟨_,b,c⟩:=I.ds p hp; ⟨b,c⟩⟩
theorem run_law3(hl:is.length≤63)(hP:∀ xs:List Int,xs≠[]→xs.length≤63→LawP (evsOf xs)):∃ H',Ev (cfg3 P sa is).pe 150 (.c (.fn 206) [.fn sa] [] H0) (.v (.bool true) H')∧H'.f 0 = .tab 123 lamName:=by
 have hlst:=lst_eq (P:=P) (sa:=sa) (is:=is)
 by_cases he:is=[]
 ·subst he
  let A:=H0.alloc (.list [])
  let B:=A.alloc (.list (numsE.map .int))
  obtain ⟨H1,E,a1,a2,a3⟩:=t_eventsR (P:=P) (sa:=sa) (is:=[]) (k:=57) (i:=2) (H:=B) (xs:=numsE) (by decide) rfl (leR rfl)
  have L:LawP (E.map (·.1)):=a2▸hP numsE (List.cons_ne_nil _ _) (leR rfl)
  obtain ⟨H',lc,z,ev⟩:=law_tail (P:=P) (sa:=sa) (is:=[]) (k:=29) (sv := .fn sa) L (a1.kept rfl (by decide))
  exact ⟨H',c_fn (init_none (by decide)) (run_fn (fn_law P sa []) .law body_law3 nm_law3 (xs_cons (xv_Asg rfl (fun ι=>rfl) (ev_CallN (lk_glob (by decide) rfl glob_ev) (ca_fn (fn_events P sa [])) (evL_cons rfl (ev_If (tv_NeL rfl (ev_Name rfl) (ev_List evL_nil (leR rfl) rfl) rfl hlst) (ev_List (evL_cons rfl (ev_Const rfl) (evL_cons rfl (ev_Const rfl) (evL_cons rfl (ev_Const rfl) (evL_cons rfl (ev_Const rfl) (evL_cons rfl (ev_Const rfl) (evL_cons rfl (ev_Const rfl) (evL_cons rfl (ev_Const rfl) (evL_cons rfl (ev_Const rfl) evL_nil)))))))) (leR rfl) rfl)) evL_nil) evKw_nil a3) (asgs_one rfl (asg_Name rfl))) ev) rfl),z⟩
 ·let A:=H0.alloc (.list [])
  obtain ⟨H1,E,a1,a2,a3⟩:=t_eventsL (P:=P) (sa:=sa) (is:=is) (k:=57) (H:=A) hlst hl
  have L:LawP (E.map (·.1)):=a2▸hP is he hl
  obtain ⟨H',lc,z,ev⟩:=law_tail (P:=P) (sa:=sa) (is:=is) (k:=29) (sv := .fn sa) L (a1.kept rfl (by decide))
  have hemp:(!is.isEmpty)=true:=by
   cases is with
   | nil=>exact absurd rfl he
   | cons _ _=>rfl
  have ht:∀ {n:Nat} {loc:Loc} {p1 p2 p3:Pos},look (pe3 P sa is) sc_law3 loc "script"=some (.fn sa)→Ev (pe3 P sa is) (n+2) (.t sc_law3 loc (.Compare (.Name "script" p1) [.NotEq] [.List [] p2] p3) H0) (.b true A):=fun {n loc p1 p2 p3} hh=>by
   have:=tv_NeL (H:=H0) (H1:=H0) (p:=p3) (b := .List [] p2) (a := .Name "script" p1) (sc:=sc_law3) (loc:=loc) rfl (ev_Name (n:=n) hh) (ev_List evL_nil (leR rfl) rfl) alloc_eq hlst
   rwa [hemp] at this
  exact ⟨H',c_fn (init_none (by decide)) (run_fn (fn_law P sa is) .law body_law3 nm_law3 (xs_cons (xv_Asg rfl (fun ι=>rfl) (ev_CallN (lk_glob (by decide) rfl glob_ev) (ca_fn (fn_events P sa is)) (evL_cons rfl (ev_If (ht rfl) (ev_Name rfl)) evL_nil) evKw_nil a3) (asgs_one rfl (asg_Name rfl))) ev) rfl),z⟩
end
inductive WF:Nat→List Et→Prop
 | nil:WF 0 []
 | st {d:Nat} {m:Nm} {l:List (Nm×Str)} {E:List Et}:d<6→m∈t4→AtOk l→(∀ p∈l,p.2∈vals4)→WF (d+1) E→WF d (.st m l::E)
 | en {d:Nat} {m:Nm} {E:List Et}:m∈t4→(d=0→E=[])→WF d E→WF (d+1) (.en m::E)
 | tx {d:Nat} {x:Str} {E:List Et}:x∈txts4→WF (d+1) E→WF (d+1) (.tx x::E)
noncomputable def txs(E:List Et):List Str:=E.rec (motive:=fun ι=>List Str) [] fun e ι r=>match e with
 | .tx x=>x::r
 | _=>[]
noncomputable def itemP(p:Str×Str):Str:=p.1++"=\""++escA p.2++"\""
noncomputable def hdT(m:Nm)(L:List (Str×Str)):Str:=m.full++cat (L.map atE)
noncomputable def mkS(m:Nm)(new:List Str)(l:List (Nm×Str))(x:Str):Hd :=
 ⟨hdT m (new.map labP++(sAt l).map atN)++">"++x,hdT m (new.map labP++(sAt l).map atN),x,true,m.full,new.map fun u=>(lab u,itemP (labP u)),(sAt l).map fun p=>(p.1.full,itemP (atN p))⟩
noncomputable def mkE(m:Nm)(x:Str):Hd:=⟨"/"++m.full++">"++x,"/"++m.full,x,false,"/"++m.full,[],[]⟩
noncomputable def toks(E:List Et)(lv:List (List Str)):List Hd:=E.rec (motive:=fun ι=>List (List Str)→List Hd) (fun ι=>[]) (fun e t r lv=>match e with
 | .st m l=>mkS m (newU (us lv) m l) l (escC (cat (txs t)))::r (lv++[newU (us lv) m l])
 | .en m=>mkE m (escC (cat (txs t)))::r lv.dropLast
 | .tx _=>r lv) lv
noncomputable def lt1(h:Hd):Str:="<"++h.tok
theorem escC_nil:escC Str.empty=Str.empty:=by kernel_rfl
theorem cat_fl(l:List Str):cat (flL l)=escC (cat l):=by
 unfold flL
 by_cases h:(cat l).length=0
 ·rw[if_pos h]
  have e:cat l=Str.empty:=str_ext (by
   rw[strLen] at h
   exact List.length_eq_zero_iff.mp h)
  rw[e,escC_nil]; rfl
 ·rw[if_neg h,cat_one]
theorem cat_stO(m:Nm)(L:List (Str×Str)):cat (stO m L)="<"++hdT m L++">":=by
 unfold stO hdT
 by_cases h:L=[]
 ·subst h
  show ("<"++m.full:Str)++((">":Str)++Str.empty)="<"++(m.full++Str.empty)++">"
  rw[Str.append_empty,Str.append_empty]
 ·rw[if_neg h]
  show ("<"++m.full:Str)++(cat (L.map atE)++((">":Str)++Str.empty))="<"++(m.full++cat (L.map atE))++">"
  rw[Str.append_empty,← Str.append_assoc,← Str.append_assoc]
theorem enO_eq(m:Nm):enO m="<"++("/"++m.full)++">":=by
 have e:(Str.empty++"</":Str)="<"++"/":=by kernel_rfl
 unfold enO
 rw[e,Str.append_assoc "<" "/" m.full]
theorem told_toks{E:List Et}:∀ {T:TS},(E=[]→T.dat=[])→WF T.lv.length E→cat (T.evs E).out=cat T.out++escC (cat (T.dat++txs E))++cat ((toks E T.lv).map lt1):=by
 induction E with
 | nil =>
  intro T hd _
  rw[hd rfl]
  show cat T.out=cat T.out++escC Str.empty++Str.empty
  rw[escC_nil,Str.append_empty,Str.append_empty]
 | cons e E ih =>
  intro T _ hw
  have e0:T.evs (e::E)=(T.ev e).evs E:=rfl
  rw[e0]
  cases e with
  | st m l =>
   generalize hD:T.lv.length=D at hw
   cases hw with
   | st _ h1 h2 h3 h4 =>
   have:=ih (T:=T.start m l) (fun ι=>rfl) (by show WF (T.lv++[_]).length E; rw[List.length_append,hD]; exact h4)
   rw[show T.ev (.st m l)=T.start m l from rfl,this]
   show cat (T.out++flL T.dat++stO m (atL (us T.lv) m l))++escC (cat ([]++txs E))++cat ((toks E (T.lv++[newU (us T.lv) m l])).map lt1)=cat T.out++escC (cat (T.dat++[]))++(lt1 (mkS m (newU (us T.lv) m l) l (escC (cat (txs E))))++cat ((toks E (T.lv++[newU (us T.lv) m l])).map lt1))
   rw[cat_app,cat_app,cat_fl,cat_stO,List.nil_append,List.append_nil]
   have e2:lt1 (mkS m (newU (us T.lv) m l) l (escC (cat (txs E))))="<"++(hdT m (atL (us T.lv) m l)++">"++escC (cat (txs E))):=rfl
   rw[e2]
   simp only[Str.append_assoc]
  | en m =>
   cases hl:T.lv with
   | nil=>rw[hl] at hw; exact nomatch (show WF 0 _ from hw)
   | cons a r =>
    have hlen:T.lv.length=r.length+1:=by rw[hl]; rfl
    rw[hlen] at hw
    cases hw with
    | en h1 h2 h3 =>
    have:=ih (T:=T.fin m) (fun ι=>rfl) (by show WF T.lv.dropLast.length E; rw[List.length_dropLast,hlen]; exact h3)
    rw[show T.ev (.en m)=T.fin m from rfl,this,← hl]
    show cat (T.out++flL T.dat++[enO m])++escC (cat ([]++txs E))++cat ((toks E T.lv.dropLast).map lt1)=cat T.out++escC (cat (T.dat++[]))++(lt1 (mkE m (escC (cat (txs E))))++cat ((toks E T.lv.dropLast).map lt1))
    rw[cat_app,cat_app,cat_fl,cat_one,enO_eq,List.nil_append,List.append_nil]
    have e2:lt1 (mkE m (escC (cat (txs E))))="<"++("/"++m.full++">"++escC (cat (txs E))):=rfl
    rw[e2]
    simp only[Str.append_assoc]
  | tx x =>
   cases hl:T.lv with
   | nil=>rw[hl] at hw; exact nomatch (show WF 0 _ from hw)
   | cons a r =>
    have hlen:T.lv.length=r.length+1:=by rw[hl]; rfl
    rw[hlen] at hw
    cases hw with
    | tx h1 h2 =>
    have hne:E≠[]:=fun q=>by rw[q] at h2; exact nomatch h2
    have:=ih (T:=T.text x) (fun q=>absurd q hne) (by show WF T.lv.length E; rw[hlen]; exact h2)
    rw[show T.ev (.tx x)=T.text x from rfl,this,← hl]
    show cat T.out++escC (cat ((T.dat++[x])++txs E))++cat ((toks E T.lv).map lt1)=cat T.out++escC (cat (T.dat++(x::txs E)))++cat ((toks E T.lv).map lt1)
    rw[List.append_assoc]; rfl
theorem col_wf{E:List Et}:∀ {D d:Nat},WF D E→d+1≤D→WF (d+1) (colE d E):=by
 induction E with
 | nil =>
  intro D d h hd
  generalize hE:([]:List Et)=F at h
  cases h with
  | nil=>exact absurd hd (by trivial)
  | _=>exact nomatch hE
 | cons e E ih =>
  intro D d h hd
  cases h with
  | st h0 h1 h2 h3 h4=>exact .st (by trivial) h1 h2 h3 (ih h4 (by trivial))
  | tx h1 h2=>exact .tx h1 (ih h2 hd)
  | en h1 h2 h3 =>
   cases d with
   | zero=>exact .en h1 (fun ι=>rfl) .nil
   | succ d=>exact .en h1 (fun q=>absurd q (by trivial)) (ih h3 (by trivial))
theorem skip_wf{E:List Et}:∀ {D j:Nat},WF D E→WF 0 (skipE j E):=by
 induction E with
 | nil=>exact fun ι => .nil
 | cons e E ih =>
  intro D j h
  cases h with
  | st h0 h1 h2 h3 h4=>cases j with
   | zero=>exact .st (by trivial) h1 h2 h3 (col_wf h4 (by trivial))
   | succ j=>exact ih (j:=j) h4
  | tx h1 h2=>exact ih (j:=j) h2
  | en h1 h2 h3=>exact ih (j:=j) h3
theorem txs_col{E:List Et}:∀ {d:Nat},txs (colE d E)=txs E:=by
 induction E with
 | nil=>exact fun {d}=>rfl
 | cons e E ih =>
  intro d
  cases e with
  | st m l=>rfl
  | tx x=>exact congrArg (x :: ·) ih
  | en m=>cases d <;> rfl
structure Bd (T:TS) (k:Nat):Prop where
 lv:T.lv.length≤6
 us:∀ l∈T.lv,l.length≤4
 out:T.out.length+4*k≤80000
 dat:T.dat.length+k≤900
 txt:∀ x∈T.dat,x.length≤4
 seen:T.dat=[]∨T.seen=true
 up:T.lv=[]∨T.seen=true
theorem flat_le{c:Nat}{L:List (List Str)}(h:∀ l∈L,l.length≤c):L.flatten.length≤L.length*c:=by
 induction L with
 | nil=>exact Nat.zero_le _
 | cons a L ih =>
  rw[List.flatten_cons,List.length_append,List.length_cons,Nat.add_mul,Nat.one_mul,Nat.add_comm]
  exact Nat.add_le_add (ih fun l hl=>h l (.tail _ hl)) (h a (.head _))
theorem Bd.tb{T:TS}{k:Nat}(B:Bd T k):TB T:=by
 have h1:=flat_le B.us
 have h2:=cat_len B.txt
 have h3:=B.lv
 have h4:=B.dat
 have h5:=B.out
 exact ⟨by trivial,by trivial,by trivial,by trivial,by trivial,B.seen⟩
theorem stO_len(m:Nm)(L:List (Str×Str)):(stO m L).length≤3:=by
 unfold stO
 by_cases h:L=[]
 ·rw[if_pos h]; exact leR rfl
 ·rw[if_neg h]; exact leR rfl
theorem good_of{E:List Et}:∀ {T:TS},WF T.lv.length E→Bd T E.length→GoodE T E:=by
 induction E with
 | nil=>exact fun ι ι => .nil
 | cons e E ih =>
  intro T hw B
  have hfl:=flL_len T.dat
  have ho:=B.out
  have hdt:=B.dat
  rw[List.length_cons] at ho hdt
  cases e with
  | st m l =>
   generalize hD:T.lv.length=D at hw
   cases hw with
   | st h0 h1 h2 h3 h4 =>
   refine .cons B.tb ⟨h1,h2⟩ (ih (T:=T.start m l) (by show WF (T.lv++[_]).length E; rw[List.length_append,hD]; exact h4) ⟨?_,fun x hx => ?_,?_,?_,fun x hx=>(nomatch hx),.inr rfl,.inr rfl⟩)
   ·show (T.lv++[_]).length≤6
    rw[List.length_append,hD]; exact h0
   ·rcases List.mem_append.mp hx with hx | hx
    ·exact B.us x hx
    ·rw[List.mem_singleton.mp hx]; exact newU_len
   ·show (T.out++flL T.dat++stO m _).length+4*E.length≤_
    have:=stO_len m (atL (us T.lv) m l)
    rw[List.length_append,List.length_append]; trivial
   ·show 0+E.length≤_
    trivial
  | en m =>
   cases hl:T.lv with
   | nil=>rw[hl] at hw; exact nomatch (show WF 0 _ from hw)
   | cons a r =>
    have hlen:T.lv.length=r.length+1:=by rw[hl]; rfl
    rw[hlen] at hw
    cases hw with
    | en h1 h2 h3 =>
    have hB:=B.lv
    refine .cons B.tb ⟨t4_kn _ h1,by rw[hl]; exact List.cons_ne_nil _ _⟩ (ih (T:=T.fin m) (by show WF T.lv.dropLast.length E; rw[List.length_dropLast,hlen]; exact h3) ⟨?_,fun x hx=>B.us x ((List.dropLast_sublist _).subset hx),?_,?_,fun x hx=>(nomatch hx),.inl rfl,.inr ?_⟩)
    ·show T.lv.dropLast.length≤6
     rw[List.length_dropLast]; trivial
    ·show (T.out++flL T.dat++[_]).length+4*E.length≤_
     rw[List.length_append,List.length_append]
     show T.out.length+(flL T.dat).length+1+_≤_
     trivial
    ·show 0+E.length≤_
     trivial
    ·exact B.up.resolve_left (by rw[hl]; exact List.cons_ne_nil _ _)
  | tx x =>
   cases hl:T.lv with
   | nil=>rw[hl] at hw; exact nomatch (show WF 0 _ from hw)
   | cons a r =>
    have hlen:T.lv.length=r.length+1:=by rw[hl]; rfl
    rw[hlen] at hw
    cases hw with
    | tx h1 h2 =>
    have hs:T.seen=true:=B.up.resolve_left (by rw[hl]; exact List.cons_ne_nil _ _)
    refine .cons B.tb trivial (ih (T:=T.text x) (by show WF T.lv.length E; rw[hlen]; exact h2) ⟨B.lv,B.us,by show T.out.length+_≤_; trivial,?_,fun y hy => ?_,.inr hs,.inr hs⟩)
    ·show (T.dat++[x]).length+E.length≤_
     rw[List.length_append]
     show T.dat.length+1+_≤_
     trivial
    ·rcases List.mem_append.mp hy with hy | hy
     ·exact B.txt y hy
     ·rw[List.mem_singleton.mp hy]
      have:∀ y∈txts4,y.length≤4:=by decide+kernel
      exact this x h1
theorem good0{E:List Et}(h:WF 0 E)(hl:E.length≤900):GoodE T0 E :=
 good_of (T:=T0) h ⟨by decide,fun ι h=>(nomatch h),by show 0+_≤_; trivial,by show 0+_≤_; trivial,fun ι h=>(nomatch h),.inl rfl,.inl rfl⟩
theorem getD_mem{α:Type}{l:List α}{d:α}{i:Nat}(h:i<l.length):l.getD i d∈l:=by
 rw[List.getD_eq_getElem?_getD,List.getElem?_eq_getElem h]; exact List.getElem_mem h
theorem m4(x:Int):(x % 4).toNat<4:=by
 have h0:=Int.emod_nonneg x (show (4:Int)≠0 by decide)
 have h1:=Int.emod_lt_of_pos x (show (0:Int)<4 by decide)
 trivial
theorem tagAt_mem(x:Int):tagAt (x % 4)∈t4:=getD_mem (m4 x)
theorem txtAt_mem(x:Int):txtAt (x % 4)∈txts4:=getD_mem (m4 x)
theorem valAt_mem(x:Int):valAt (x % 4)∈vals4:=getD_mem (m4 x)
theorem atU_vals(r:Int){p:Nat}:∀ q∈atU r p,q.2∈vals4:=by
 induction p with
 | zero=>exact fun q h=>nomatch h
 | succ p ih =>
  intro q hq
  have e:atU r (p+1)=atU r p++(if bit r p=true then [(k4.getD p nK,valAt ((r/64+(p:Int)) % 4))] else []):=rfl
  rw[e] at hq
  rcases List.mem_append.mp hq with hq | hq
  ·exact ih q hq
  ·by_cases hb:bit r p=true
   ·rw[if_pos hb] at hq
    rw[List.mem_singleton.mp hq]; exact valAt_mem _
   ·rw[if_neg hb] at hq; exact nomatch hq
theorem wf_close{l:List Nm}(h:∀ m∈l,m∈t4):WF l.length (l.map .en):=by
 induction l with
 | nil=>exact .nil
 | cons m l ih=>exact .en (h m (.head _)) (fun q=>by rw[List.length_eq_zero_iff.mp q]; rfl) (ih fun x hx=>h x (.tail _ hx))
structure EI (S:ES):Prop where
 ns:∀ m∈S.ns,m∈t4
 len:S.ns.length≤6
 wf:∀ R,WF S.ns.length R→WF 0 (S.ev++R)
 bg:(S.bg=0∧S.ns=[])∨(S.bg≠0∧1≤S.ns.length∧1≤(S.ev.filter isSt).length)
theorem EI.step{S:ES}(I:EI S)(x:Int):EI (S.step x)∧(S.step x).bg≠0∧(S.step x).ev.length=S.ev.length+1:=by
 unfold ES.step
 by_cases c1:cnd (x % 4) S.ns.length S.bg=true
 ·rw[if_pos c1]
  have h6:S.ns.length<6:=by
   rcases I.bg with ⟨_,h⟩ | ⟨h,_⟩
   ·rw[h]; decide
   ·unfold cnd at c1
    rcases Bool.or_eq_true_iff.mp c1 with c | c
    ·exact absurd (by have:=beq_iff_eq.mp c; trivial) h
    ·have:=of_decide_eq_true (Bool.and_eq_true_iff.mp (Bool.and_eq_true_iff.mp c).2).1
     trivial
  refine ⟨⟨fun m hm => ?_,?_,fun R hR => ?_,.inr ⟨Nat.succ_ne_zero _,?_,?_⟩⟩,Nat.succ_ne_zero _,List.length_append⟩
  ·rcases List.mem_append.mp hm with hm | hm
   ·exact I.ns m hm
   ·rw[List.mem_singleton.mp hm]; exact tagAt_mem _
  ·show (S.ns++[_]).length≤6
   rw[List.length_append]; exact h6
  ·show WF 0 ((S.ev++[_])++R)
   rw[List.append_assoc]
   have hR':WF (S.ns++[tagAt (x/4 % 4)]).length R:=hR
   rw[List.length_append] at hR'
   exact I.wf _ (.st h6 (tagAt_mem _) (atU_ok _) (atU_vals _) hR')
  ·show 1≤(S.ns++[_]).length
   rw[List.length_append]; exact Nat.le_add_left _ _
  ·show 1≤((S.ev++[_]).filter isSt).length
   rw[List.filter_append,List.length_append]
   exact Nat.le_add_left 1 _
 ·rw[if_neg c1]
  have hb:S.bg≠0∧1≤S.ns.length∧1≤(S.ev.filter isSt).length:=I.bg.resolve_left fun ⟨q,_⟩=>c1 (by unfold cnd; rw[q]; rfl)
  by_cases c2:cnE (x % 4) S.ns.length=true
  ·rw[if_pos c2]
   have h2:S.ns.length>1:=by
    have:=of_decide_eq_true (Bool.and_eq_true_iff.mp c2).2
    trivial
   have hne:S.ns≠[]:=fun q=>by rw[q] at h2; exact absurd h2 (by decide)
   have hl:S.ns.getLast? = some (S.ns.getLast hne):=List.getLast?_eq_some_getLast hne
   refine ⟨⟨fun m hm=>I.ns m ((List.dropLast_sublist _).subset hm),?_,fun R hR => ?_,.inr ⟨hb.1,?_,?_⟩⟩,hb.1,List.length_append⟩
   ·show S.ns.dropLast.length≤6
    rw[List.length_dropLast]; have:=I.len; trivial
   ·show WF 0 ((S.ev++[_])++R)
    rw[List.append_assoc]
    refine I.wf _ ?_
    have hR':WF S.ns.dropLast.length R:=hR
    rw[List.length_dropLast] at hR'
    have e:S.ns.length=(S.ns.length-1)+1:=by trivial
    rw[e]
    refine .en ?_ (fun q=>absurd q (by trivial)) hR'
    rw[hl]; exact I.ns _ (List.getLast_mem hne)
   ·show 1≤S.ns.dropLast.length
    rw[List.length_dropLast]; trivial
   ·show 1≤((S.ev++[_]).filter isSt).length
    rw[List.filter_append,List.length_append]; have:=hb.2.2; trivial
  ·rw[if_neg c2]
   refine ⟨⟨I.ns,I.len,fun R hR => ?_,.inr ⟨hb.1,hb.2.1,?_⟩⟩,hb.1,List.length_append⟩
   ·show WF 0 ((S.ev++[_])++R)
    rw[List.append_assoc]
    refine I.wf _ ?_
    have hR':WF S.ns.length R:=hR
    have e:S.ns.length=(S.ns.length-1)+1:=by have:=hb.2.1; trivial
    rw[e] at hR' ⊢
    exact .tx (txtAt_mem _) hR'
   ·show 1≤((S.ev++[_]).filter isSt).length
    rw[List.filter_append,List.length_append]; have:=hb.2.2; trivial
theorem run_ei{xs:List Int}:∀ {S:ES},EI S→EI (S.run xs)∧(S.run xs).ev.length=S.ev.length+xs.length∧(xs≠[]∨S.bg≠0→(S.run xs).bg≠0):=by
 induction xs with
 | nil=>exact fun {S} I=>⟨I,rfl,fun h=>h.elim (fun q=>absurd rfl q) id⟩
 | cons x xs ih =>
  intro S I
  obtain ⟨a,b,c⟩:=I.step x
  obtain ⟨d,e,f⟩:=ih a
  exact ⟨d,by rw[show S.run (x::xs)=(S.step x).run xs from rfl,e,c,List.length_cons]; trivial,fun ι=>f (.inr b)⟩
theorem evs_ok{xs:List Int}(hne:xs≠[])(hl:xs.length≤63):WF 0 (evsOf xs)∧(evsOf xs).length≤69∧1≤((evsOf xs).filter isSt).length:=by
 obtain ⟨I,h2,h3⟩:=run_ei (xs:=xs) (S:=S0) ⟨fun ι h=>(nomatch h),by decide,fun R h=>h,.inl ⟨rfl,rfl⟩⟩
 have hb:=I.bg.resolve_left fun ⟨q,_⟩=>h3 (.inl hne) q
 refine ⟨I.wf _ ?_,?_,?_⟩
 ·have:=wf_close (l:=(S0.run xs).ns.reverse) fun m hm=>I.ns m (List.mem_reverse.mp hm)
  rwa [List.length_reverse] at this
 ·unfold evsOf
  rw[List.length_append,h2,List.length_map,List.length_reverse]
  have:=I.len
  show 0+xs.length+_≤69
  trivial
 ·unfold evsOf
  rw[List.filter_append,List.length_append]
  have:=hb.2.2
  trivial
noncomputable def okIt(p:Str×Str):Bool:=(itemP p).cps.toList.all (fun c => !(Nat.beq c 32)&&(!(Nat.beq c 62) && !(Nat.beq c 60)))&&(p.1.cps.toList.all (fun c => !(Nat.beq c 61))&&Nat.ble (itemP p).length 200)
structure ItOk (p:Str×Str):Prop where
 sp:32∉(itemP p).cps.toList
 gt:62∉(itemP p).cps.toList
 lt:60∉(itemP p).cps.toList
 eq:61∉p.1.cps.toList
 len:(itemP p).length≤200
theorem nbeq{c k:Nat}(h:(!(Nat.beq c k))=true):c≠k:=fun q=>by rw[q,show Nat.beq k k=true from Nat.beq_refl k] at h; exact noB h
theorem okIt_of{p:Str×Str}(h:okIt p=true):ItOk p:=by
 obtain ⟨h1,h⟩:=Bool.and_eq_true_iff.mp h
 obtain ⟨h2,h3⟩:=Bool.and_eq_true_iff.mp h
 have f:=fun c hc=>Bool.and_eq_true_iff.mp (List.all_eq_true.mp h1 c hc)
 exact ⟨fun q=>nbeq (f _ q).1 rfl,fun q=>nbeq (Bool.and_eq_true_iff.mp (f _ q).2).1 rfl,fun q=>nbeq (Bool.and_eq_true_iff.mp (f _ q).2).2 rfl,fun q=>nbeq (List.all_eq_true.mp h2 _ q) rfl,leR h3⟩
theorem de_ok:∀ u∈u4,ItOk (labP u)∧Txt.startswith (itemP (labP u)) "xmlns"=true:=by
 have h:u4.all (fun u=>okIt (labP u)&&Txt.startswith (itemP (labP u)) "xmlns")=true:=by decide+kernel
 intro u hu
 obtain ⟨a,b⟩:=Bool.and_eq_true_iff.mp (List.all_eq_true.mp h u hu)
 exact ⟨okIt_of a,b⟩
theorem pl_ok:∀ m∈k4,∀ v∈vals4,ItOk (m.full,v)∧Txt.startswith (itemP (m.full,v)) "xmlns"=false:=by
 have h:k4.all (fun m=>vals4.all fun v=>okIt (m.full,v) && !(Txt.startswith (itemP (m.full,v)) "xmlns"))=true:=by decide+kernel
 intro m hm v hv
 obtain ⟨a,b⟩:=Bool.and_eq_true_iff.mp (List.all_eq_true.mp (List.all_eq_true.mp h m hm) v hv)
 exact ⟨okIt_of a,(Bool.not_eq_true' _).mp b⟩
theorem nms_ok:∀ m∈kn,NmS m.full:=by
 have h:kn.all (fun m=>Nat.ble m.full.length 1000&&(match Txt.split m.full ":" with | a::_=>Nat.ble a.length 1000 | []=>false))=true:=by decide+kernel
 intro m hm
 have:=List.all_eq_true.mp h m hm
 obtain ⟨a,b⟩:=Bool.and_eq_true_iff.mp this
 refine ⟨leR a,?_⟩
 cases e:Txt.split m.full ":" with
 | nil=>rw[e] at b; exact noB b
 | cons x r=>rw[e] at b; exact ⟨x,r,rfl,leR b⟩
noncomputable def tgB(m:Nm):Bool:=m.full.cps.toList.all (fun c => !(Nat.beq c 32)&&(!(Nat.beq c 62) && !(Nat.beq c 60)))&&(Nat.ble m.full.length 100&&((match Txt.split ("/"++m.full) ":" with | a::_=>Nat.ble a.length 1000 | []=>false)&&(match m.full.cps.toList with | c::_ => !(Nat.beq c 47) | []=>false)))
structure TgOk (m:Nm):Prop where
 sp:32∉m.full.cps.toList
 gt:62∉m.full.cps.toList
 lt:60∉m.full.cps.toList
 len:m.full.length≤100
 nms:NmS ("/"++m.full)
 first:Ex2_2 (fun c r=>m.full.cps.toList=c::r) (fun c r=>c≠47)
theorem tg_ok:∀ m∈t4,TgOk m:=by
 have h:t4.all tgB=true:=by decide+kernel
 intro m hm
 have:=List.all_eq_true.mp h m hm
 unfold tgB at this
 obtain ⟨h1,h2⟩:=Bool.and_eq_true_iff.mp this
 obtain ⟨h3,h4⟩:=Bool.and_eq_true_iff.mp h2
 obtain ⟨h5,h6⟩:=Bool.and_eq_true_iff.mp h4
 have f:=fun c hc=>Bool.and_eq_true_iff.mp (List.all_eq_true.mp h1 c hc)
 have l3:m.full.length≤100:=leR h3
 refine ⟨fun q=>nbeq (f _ q).1 rfl,fun q=>nbeq (Bool.and_eq_true_iff.mp (f _ q).2).1 rfl,fun q=>nbeq (Bool.and_eq_true_iff.mp (f _ q).2).2 rfl,l3,⟨by rw[sLen]; show 1+_≤_; trivial,?_⟩,?_⟩
 ·cases e:Txt.split ("/"++m.full) ":" with
  | nil=>rw[e] at h5; exact noB h5
  | cons x r=>rw[e] at h5; exact ⟨x,r,rfl,leR h5⟩
 ·cases e:m.full.cps.toList with
  | nil=>rw[e] at h6; exact noB h6
  | cons c r=>rw[e] at h6; exact ⟨c,r,rfl,nbeq h6⟩
theorem atE_item(p:Str×Str):atE p=⟨#[32]⟩++itemP p:=by
 unfold atE atx itemP
 have e:(Str.empty++" ":Str)=⟨#[32]⟩:=by kernel_rfl
 rw[e]
 simp only[Str.append_assoc]
theorem split_hd{L:List (Str×Str)}:∀ {a:Str},32∉a.cps.toList→(∀ p∈L,ItOk p)→Txt.split (a++cat (L.map atE)) ⟨#[32]⟩=a::L.map itemP:=by
 induction L with
 | nil =>
  intro a ha _
  show Txt.split (a++Str.empty) _=[a]
  rw[Str.append_empty]; exact split_one ha
 | cons p L ih =>
  intro a ha h
  show Txt.split (a++(atE p++cat (L.map atE))) _=a::itemP p::L.map itemP
  rw[atE_item,Str.append_assoc,split_app ha,ih (h p (.head _)).sp fun q hq=>h q (.tail _ hq)]
theorem cat_free{c:Nat}{l:List Str}(h:∀ x∈l,c∉x.cps.toList):c∉(cat l).cps.toList:=by
 rw[catL]
 exact fun q=>by
  obtain ⟨x,hx,hc⟩:=List.mem_flatMap.mp q
  exact h x hx hc
theorem hd_free{m:Nm}(hm:m∈t4){L:List (Str×Str)}(h:∀ p∈L,ItOk p):60∉(hdT m L).cps.toList∧62∉(hdT m L).cps.toList:=by
 have g:∀ {c:Nat},c≠32→c∉m.full.cps.toList→(∀ p∈L,c∉(itemP p).cps.toList)→c∉(hdT m L).cps.toList:=fun {c} h32 hf hi=>by
  unfold hdT
  rw[tl_app]
  intro q
  rcases List.mem_append.mp q with q | q
  ·exact hf q
  ·refine cat_free (fun x hx => ?_) q
   obtain ⟨p,hp,rfl⟩:=List.mem_map.mp hx
   rw[atE_item,tl_app]
   exact fun q=>(List.mem_append.mp q).elim (fun q=>h32 (List.mem_singleton.mp q)) (hi p hp)
 have T:=tg_ok m hm
 exact ⟨g (by decide) T.lt fun p hp=>(h p hp).lt,g (by decide) T.gt fun p hp=>(h p hp).gt⟩
theorem hd_len{m:Nm}(hm:m∈t4){L:List (Str×Str)}(h:∀ p∈L,ItOk p)(h8:L.length≤8):(hdT m L).length≤2000:=by
 unfold hdT
 rw[sLen]
 have h1:=(tg_ok m hm).len
 have h2:=cat_len (l:=L.map atE) (c:=201) fun x hx=>by
  obtain ⟨p,hp,rfl⟩:=List.mem_map.mp hx
  rw[atE_item,sLen]
  have:=(h p hp).len
  show 1+_≤_
  trivial
 rw[List.length_map] at h2
 trivial
theorem gt_eq:(">":Str)=⟨#[62]⟩:=by kernel_rfl
theorem eq_eq:("=":Str)=⟨#[61]⟩:=by kernel_rfl
theorem sp_eq:(" ":Str)=⟨#[32]⟩:=by kernel_rfl
theorem lt_eq:("<":Str)=⟨#[60]⟩:=by kernel_rfl
theorem key_of{p:Str×Str}(h:ItOk p):KeyOk (p.1,itemP p):=by
 refine ⟨⟨Txt.split ("\""++escA p.2++"\"") "=",?_⟩,Nat.le_trans h.len (by decide)⟩
 have e:itemP p=p.1++(⟨#[61]⟩++("\""++escA p.2++"\"")):=by
  have e1:("=\"":Str)=⟨#[61]⟩++"\"":=by kernel_rfl
  unfold itemP
  rw[e1]
  simp only[Str.append_assoc]
 show Txt.split (itemP p) "="=_
 rw[e,eq_eq,split_app h.eq]
theorem l_ok{new:List Str}{l:List (Nm×Str)}(hn:∀ u∈new,u∈u4)(hl:AtOk l)(hv:∀ p∈l,p.2∈vals4):∀ p∈new.map labP++(sAt l).map atN,ItOk p:=fun p hp=>by
 rcases List.mem_append.mp hp with hp | hp
 ·obtain ⟨u,hu,rfl⟩:=List.mem_map.mp hp
  exact (de_ok u (hn u hu)).1
 ·obtain ⟨q,hq,rfl⟩:=List.mem_map.mp hp
  have hq:=(sAt_mem (at':=l) (by have:=hl.len; trivial)).1 q hq
  exact (pl_ok _ (hl.mem q hq) _ (hv q hq)).1
theorem mkS_ok{m:Nm}(hm:m∈t4){new:List Str}(hn:∀ u∈new,u∈u4)(h4:new.length≤4){l:List (Nm×Str)}(hl:AtOk l)(hv:∀ p∈l,p.2∈vals4){x:Str}(hx:x.length≤900000):HdOk (mkS m new l x):=by
 have hs:=sAt_mem (at':=l) (by have:=hl.len; trivial)
 have hll:=hl.len
 have LO:=l_ok hn hl hv
 have h8:(new.map labP++(sAt l).map atN).length≤8:=by rw[List.length_append,List.length_map,List.length_map,hs.2]; trivial
 have hle:=hd_len hm LO h8
 have T:=tg_ok m hm
 have e0:(mkS m new l x).tok=(mkS m new l x).hd++(⟨#[62]⟩++x):=by
  show (mkS m new l x).hd++">"++x=_
  rw[gt_eq,Str.append_assoc]
 have el:((mkS m new l x).hd++">":Str).length=(mkS m new l x).hd.length+1:=sLen _ _
 have hle':(mkS m new l x).hd.length≤2000:=hle
 have edp:(mkS m new l x).decl++(mkS m new l x).plain=(new.map labP++(sAt l).map atN).map fun p=>(p.1,itemP p):=by
  rw[List.map_append,List.map_map,List.map_map]; rfl
 refine ⟨?_,by trivial,⟨Txt.split x ">",?_⟩,?_,?_,?_,fun p hp => ?_,fun p hp => ?_,fun p hp => ?_,nms_ok m (t4_kn m hm),by rw[edp,List.length_map]; trivial,by show ((sAt l).map _).length≤4; rw[List.length_map,hs.2]; exact hll,by show x.length≤_; trivial⟩
 ·rw[e0,sLen,sLen]
  show _+(1+x.length)≤_
  trivial
 ·rw[e0,gt_eq]; exact split_app (hd_free hm LO).2
 ·exact slice_from (a:=(mkS m new l x).hd++">") (b:=x) rfl (by rw[el]; trivial)
 ·obtain ⟨c,r,hc,h47⟩:=T.first
  have e:(mkS m new l x).hd=(⟨#[c]⟩:Str)++⟨(r++(cat ((new.map labP++(sAt l).map atN).map atE)).cps.toList).toArray⟩:=str_ext (by
   show (m.full++cat _).cps.toList=_
   rw[tl_app,tl_app,hc]; rfl)
  rw[slice_to (j:=1) e rfl]
  exact beq_false_of_ne fun q=>h47 (by
   have:=congrArg (fun s:Str=>s.cps.toList) q
   exact (List.cons.inj (show [c]=[47] from this)).1)
 ·rw[sp_eq,edp,List.map_map]
  exact split_hd T.sp LO
 ·rw[edp] at hp
  obtain ⟨q,hq,rfl⟩:=List.mem_map.mp hp
  exact key_of (LO q hq)
 ·obtain ⟨u,hu,rfl⟩:=List.mem_map.mp hp
  exact (de_ok u (hn u hu)).2
 ·obtain ⟨q,hq,rfl⟩:=List.mem_map.mp hp
  have hq':=hs.1 q hq
  exact ⟨(pl_ok _ (hl.mem q hq') _ (hv q hq')).2,nms_ok _ (k4_kn _ (hl.mem q hq'))⟩
theorem mkE_ok{m:Nm}(hm:m∈t4){x:Str}(hx:x.length≤900000):HdOk (mkE m x):=by
 have T:=tg_ok m hm
 have hl:=T.len
 have e1:("/"++m.full:Str).length=1+m.full.length:=sLen _ _
 have e0:(mkE m x).tok=("/"++m.full)++(⟨#[62]⟩++x):=by
  show "/"++m.full++">"++x=_
  rw[gt_eq,Str.append_assoc]
 have fr:∀ {c:Nat},c≠47→c∉m.full.cps.toList→c∉("/"++m.full:Str).cps.toList:=fun {c} h h2 q=>by
  rw[tl_app] at q
  exact (List.mem_append.mp q).elim (fun q=>h (List.mem_singleton.mp q)) h2
 refine ⟨?_,by show ("/"++m.full:Str).length≤_; rw[e1]; trivial,⟨Txt.split x ">",?_⟩,?_,?_,?_,fun p hp=>(nomatch hp),fun p hp=>(nomatch hp),fun p hp=>(nomatch hp),T.nms,Nat.zero_le _,Nat.zero_le _,by show x.length≤_; trivial⟩
 ·rw[e0,sLen,e1,sLen]
  show _+(1+x.length)≤_
  trivial
 ·rw[e0,gt_eq]; exact split_app (fr (by decide) T.gt)
 ·exact slice_from (a:="/"++m.full++">") (b:=x) rfl (by
   show ((("/"++m.full:Str).length:Int)+1)=((("/"++m.full:Str)++">").length:Int)
   rw[sLen ("/"++m.full) ">"]; rfl)
 ·show (Txt.slice ("/"++m.full) none (some 1)=="/")=true
  rw[slice_to (j:=1) (a:="/") (b:=m.full) rfl rfl]; exact beq_self_eq_true _
 ·rw[sp_eq]; exact split_one (fr (by decide) T.sp)
section
theorem txs_ok{E:List Et}:∀ {D:Nat},WF D E→(∀ x∈txs E,x.length≤4)∧(txs E).length≤E.length:=by
 induction E with
 | nil=>exact fun ι=>⟨fun ι h=>(nomatch h),Nat.le_refl _⟩
 | cons e E ih =>
  intro D h
  cases h with
  | st h0 h1 h2 h3 h4=>exact ⟨fun ι h=>(nomatch h),Nat.zero_le _⟩
  | en h1 h2 h3=>exact ⟨fun ι h=>(nomatch h),Nat.zero_le _⟩
  | tx h1 h2 =>
   obtain ⟨a,b⟩:=ih h2
   refine ⟨fun x hx => ?_,Nat.succ_le_succ b⟩
   rcases List.mem_cons.mp hx with rfl | hx
   ·have:∀ y∈txts4,y.length≤4:=by decide+kernel
    exact this _ h1
   ·exact a x hx
theorem txt_len{E:List Et}{D:Nat}(h:WF D E)(hl:E.length≤100):(escC (cat (txs E))).length≤2400:=by
 obtain ⟨a,b⟩:=txs_ok h
 have h1:=cat_len a
 have h2:(escC (cat (txs E))).length≤6*(cat (txs E)).length:=chn_len rfl rfl
 trivial
theorem tok_free{hd x:Str}(h:60∉hd.cps.toList)(hx:60∉x.cps.toList):60∉(hd++">"++x:Str).cps.toList:=by
 rw[tl_app,tl_app]
 intro q
 rcases List.mem_append.mp q with q | q
 ·exact (List.mem_append.mp q).elim h fun q=>absurd (List.mem_singleton.mp q) (by decide)
 ·exact hx q
set_option tactic.hygienic true in
theorem toks_ok{E:List Et}:∀ {D:Nat} {lv:List (List Str)},WF D E→E.length≤100→(∀ h∈toks E lv,HdOk h∧60∉h.tok.cps.toList∧h.tok.length≤5000)∧(toks E lv).length≤E.length:=by
 induction E with
 | nil=>exact fun {D lv} ι ι=>⟨fun ι h=>(nomatch (show _∈([]:List Hd) from h)),Nat.le_refl _⟩
 | cons e E ih =>
  intro D lv h hl
  rw[List.length_cons] at hl
  cases h with
  | st h0 h1 h2 h3 h4 =>
   rename_i m l
   have hx:=txt_len h4 (by trivial)
   obtain ⟨a,b⟩:=ih (lv:=lv++[newU (us lv) m l]) h4 (by trivial)
   have hn:∀ u∈newU (us lv) m l,u∈u4:=fun u hu=>((newU_ok.2 u).mp hu).1
   have LO:=l_ok hn h2 h3
   have h8:((newU (us lv) m l).map labP++(sAt l).map atN).length≤8:=(atL_ok (us:=us lv) (tag:=m) h2).len
   refine ⟨fun t ht => ?_,Nat.succ_le_succ b⟩
   rcases List.mem_cons.mp (show t∈mkS m (newU (us lv) m l) l (escC (cat (txs E)))::toks E (lv++[newU (us lv) m l]) from ht) with rfl | ht
   ·refine ⟨mkS_ok h1 hn newU_len h2 h3 (by trivial),tok_free (hd_free h1 LO).1 (escC_free _).1,?_⟩
    have:=hd_len h1 LO h8
    show (hdT m ((newU (us lv) m l).map labP++(sAt l).map atN)++">"++escC (cat (txs E))).length≤_
    rw[sLen,sLen]
    show _+1+_≤_
    trivial
   ·exact a t ht
  | en h1 h2 h3 =>
   rename_i d m
   have hx:=txt_len h3 (by trivial)
   obtain ⟨a,b⟩:=ih (lv:=lv.dropLast) h3 (by trivial)
   refine ⟨fun t ht => ?_,Nat.succ_le_succ b⟩
   rcases List.mem_cons.mp (show t∈mkE m (escC (cat (txs E)))::toks E lv.dropLast from ht) with rfl | ht
   ·have T:=tg_ok m h1
    have hl:=T.len
    refine ⟨mkE_ok h1 (by trivial),tok_free (fun q => ?_) (escC_free _).1,?_⟩
    ·rw[tl_app] at q
     exact (List.mem_append.mp q).elim (fun q=>absurd (List.mem_singleton.mp q) (by decide)) T.lt
    ·show ("/"++m.full++">"++escC (cat (txs E)):Str).length≤_
     rw[sLen,sLen,sLen]
     show 1+_+1+_≤_
     trivial
   ·exact a t ht
  | tx h1 h2 =>
   obtain ⟨a,b⟩:=ih (lv:=lv) h2 (by trivial)
   exact ⟨a,Nat.le_succ_of_le b⟩
theorem glue_toks{T:List Hd}:(Str.join ⟨#[60]⟩ (Str.empty::T.map (·.tok))).cps.toList=(cat (T.map lt1)).cps.toList:=by
 have g:∀ {T:List Hd} {a:Str},(Str.join ⟨#[60]⟩ (a::T.map (·.tok))).cps.toList=(a++cat (T.map lt1)).cps.toList:=fun {T}=>by
  induction T with
  | nil=>exact fun {a}=>by rw[show cat (([]:List Hd).map lt1)=Str.empty from rfl,Str.append_empty]; rfl
  | cons h T ih =>
   intro a
   rw[List.map_cons,glue_cons 60 a _ (List.cons_ne_nil _ _),ih]
   show _=(a++("<"++h.tok++cat (T.map lt1))).cps.toList
   rw[tl_app,tl_app,tl_app,tl_app,List.append_assoc]; rfl
 rw[g,Str.empty_append]
theorem split_whole{T:List Hd}(h:∀ t∈T,60∉t.tok.cps.toList):Txt.split (cat (T.map lt1)) "<"=Str.empty::T.map (·.tok):=by
 rw[lt_eq]
 refine split_parts (List.cons_ne_nil _ _) (fun p hp => ?_) glue_toks
 rcases List.mem_cons.mp hp with rfl | hp
 ·exact fun q=>nomatch (show _∈([]:List Nat) from q)
 ·obtain ⟨t,ht,rfl⟩:=List.mem_map.mp hp
  exact h t ht
end
section
noncomputable def decls(E:List Et)(lv:List (List Str)):List Str:=E.rec (motive:=fun ι=>List (List Str)→List Str) (fun ι=>[]) (fun e ι r lv=>match e with
 | .st m l=>newU (us lv) m l++r (lv++[newU (us lv) m l])
 | .en _=>r lv.dropLast
 | .tx _=>r lv) lv
noncomputable def SInv(d:Loc)(S:List Str):Prop:=∀ u∈S,u∈u4∧d.lookup (lab u)=some (.str (itemP (labP u)))
theorem lab_inj:∀ u∈u4,∀ v∈u4,lab u=lab v→u=v:=by
 have h:u4.all (fun u=>u4.all fun v => !(lab u==lab v)||u==v)=true:=by decide+kernel
 intro u hu v hv e
 have:=List.all_eq_true.mp (List.all_eq_true.mp h u hu) v hv
 rw[e,beq_self_eq_true] at this
 exact beq_iff_eq.mp this
theorem SInv.set{d:Loc}{S:List Str}(h:SInv d S){u:Str}(hu:u∈u4):SInv (setL d (lab u) (.str (itemP (labP u)))) (S++[u]):=fun v hv=>by
 have hv4:v∈u4:=(List.mem_append.mp hv).elim (fun q=>(h v q).1) fun q=>by rw[List.mem_singleton.mp q]; exact hu
 refine ⟨hv4,?_⟩
 rw[lookup_setL]
 by_cases e:lab v=lab u
 ·rw[if_pos e,lab_inj v hv4 u hu e]
 ·rw[if_neg e]
  rcases List.mem_append.mp hv with q | q
  ·exact (h v q).2
  ·exact absurd (by rw[List.mem_singleton.mp q]) e
theorem saidL_decl{new:List Str}:∀ {d:Loc} {S:List Str},SInv d S→(∀ u∈new,u∈u4)→SInv (saidL d (new.map fun u=>(lab u,itemP (labP u)))) (S++new):=by
 induction new with
 | nil=>exact fun {d S} h ι=>by rw[List.append_nil]; exact h
 | cons u new ih =>
  intro d S h hn
  have e:saidIt d (lab u,itemP (labP u))=setL d (lab u) (.str (itemP (labP u))):=if_pos (de_ok u (hn u (.head _))).2
  have:=ih (h.set (hn u (.head _))) fun v hv=>hn v (.tail _ hv)
  rw[List.append_assoc,← e] at this
  exact this
theorem saidL_plain{l:List (Str×Str)}:∀ {d:Loc},(∀ p∈l,Txt.startswith p.2 "xmlns"=false)→saidL d l=d:=by
 induction l with
 | nil=>exact fun ι=>rfl
 | cons p l ih =>
  intro d h
  have e:saidIt d p=d:=if_neg (by rw[h p (.head _)]; exact Bool.false_ne_true)
  show saidL (saidIt d p) l=d
  rw[e]; exact ih fun q hq=>h q (.tail _ hq)
theorem saidL_app(d:Loc)(a b:List (Str×Str)):saidL d (a++b)=saidL (saidL d a) b:=List.foldl_append
set_option tactic.hygienic true in
theorem said_toks{E:List Et}:∀ {D:Nat} {lv:List (List Str)} {d:Loc} {S:List Str},WF D E→SInv d S→SInv (saidT d (toks E lv)) (S++decls E lv):=by
 induction E with
 | nil=>exact fun {D lv d S} ι h=>by rw[show decls [] lv=[] from rfl,List.append_nil]; exact h
 | cons e E ih =>
  intro D lv d S hw h
  cases hw with
  | st h0 h1 h2 h3 h4 =>
   rename_i m l
   have hn:∀ u∈newU (us lv) m l,u∈u4:=fun u hu=>((newU_ok.2 u).mp hu).1
   have O:=mkS_ok (x:=Str.empty) h1 hn newU_len h2 h3 (Nat.zero_le _)
   have g:=ih (lv:=lv++[newU (us lv) m l]) h4 (saidL_decl h hn)
   rw[List.append_assoc] at g
   have e1:saidL d ((newU (us lv) m l).map (fun u=>(lab u,itemP (labP u)))++(sAt l).map fun p=>(p.1.full,itemP (atN p)))=saidL d ((newU (us lv) m l).map fun u=>(lab u,itemP (labP u))):=by
    rw[saidL_app]; exact saidL_plain fun p hp=>(O.pl p hp).1
   show SInv (saidT (saidL d ((newU (us lv) m l).map (fun u=>(lab u,itemP (labP u)))++(sAt l).map fun p=>(p.1.full,itemP (atN p)))) (toks E (lv++[newU (us lv) m l]))) _
   rw[e1]; exact g
  | en h1 h2 h3=>exact ih (lv:=lv.dropLast) h3 h
  | tx h1 h2=>exact ih (lv:=lv) h2 h
end
theorem nd_one{α:Type}(x:α):[x].Nodup:=List.nodup_cons.mpr ⟨fun h=>(nomatch h),.nil⟩
theorem low_all{n:Nat}(h:2≤n∧n≤5):lowB n (fun p:Array Nat=>(List.range n).all fun i=>p.toList.any fun j=>Nat.beq i j) (kas_sort n)=true:=by
 have hc:n=2∨n=3∨n=4∨n=5:=by trivial
 rcases hc with rfl | rfl | rfl | rfl
 ·decide+kernel
 ·decide+kernel
 ·decide+kernel
 ·decide+kernel
theorem srt_all{α:Type}{d:α}{lt:α→α→Bool}{xs:List α}(h5:xs.length≤5):∀ p∈xs,p∈srt d lt xs:=fun p hp=>by
 unfold srt
 by_cases h2:xs.length<2
 ·rw[if_pos h2]; exact hp
 rw[if_neg h2]
 have:=krun_ok (lt:=fun i j=>lt (xs.getD i d) (xs.getD j d)) (kas_sort xs.length) (low_all ⟨Nat.le_of_not_lt h2,h5⟩)
 obtain ⟨i,hi,rfl⟩:=List.mem_iff_getElem.mp hp
 obtain ⟨j,hj,e⟩:=List.any_eq_true.mp (List.all_eq_true.mp this i (List.mem_range.mpr hi))
 have e:i=j:=Nat.eq_of_beq_eq_true e
 refine List.mem_map.mpr ⟨i,e▸hj,?_⟩
 rw[List.getD_eq_getElem?_getD,List.getElem?_eq_getElem hi]; rfl
theorem u4_pw:u4.Pairwise fun a c=>ru a<ru c:=by decide+kernel
theorem u4_nd:u4.Nodup:=by decide+kernel
noncomputable def labs4:List Str:=u4.map lab
theorem labs_pw:labs4.Pairwise fun a b=>ltPair (.str a) (.str b)=true∧ltPair (.str b) (.str a)=false:=by decide+kernel
theorem labs_nd:labs4.Nodup:=by decide+kernel
theorem ru_nd{D:List Str}(h:D.Pairwise fun a c=>ru a<ru c):D.Nodup:=h.imp fun {a c} h (q:a=c)=>Nat.lt_irrefl (ru c) (by rw[q] at h; exact h)
theorem filt_u4{D:List Str}{p:Str→Bool}(hp:D.Pairwise fun a c=>ru a<ru c)(h:∀ u,u∈D↔u∈u4∧p u=true):u4.filter p=D:=by
 refine List.Perm.eq_of_pairwise (le:=fun a c=>ru a<ru c) (fun a c ι ι h3 h4=>absurd h3 (Nat.lt_asymm h4)) (u4_pw.filter _) hp ?_
 exact (List.perm_ext_iff_of_nodup (u4_nd.filter _) (ru_nd hp)).mpr fun u=>by rw[List.mem_filter]; exact (h u).symm
theorem t4_lab:∀ m∈t4,labN m.full=lab m.uri∧m.uri∈u4:=by
 have h:t4.all (fun m=>labN m.full==lab m.uri&&u4.contains m.uri)=true:=by decide+kernel
 intro m hm
 obtain ⟨a,b⟩:=Bool.and_eq_true_iff.mp (List.all_eq_true.mp h m hm)
 exact ⟨beq_iff_eq.mp a,List.contains_iff_mem.mp b⟩
noncomputable def addE(U:List Str)(x:Str):List Str:=if U.contains x=true then U else U++[x]
noncomputable def kUsed(k:Nm):Bool:=if u4.contains k.uri=true then Txt.contains k.full ":"&&(!(Txt.slice k.full none (some 4)=="xml:")&&labN k.full==lab k.uri) else !(Txt.contains k.full ":")||Txt.slice k.full none (some 4)=="xml:"
theorem k4_used{k:Nm}(hk:k∈k4){U:List Str}{x:Str}:usedIt U (k.full,x)=if k.uri∈u4 then addE U (lab k.uri) else U:=by
 have h:k4.all kUsed=true:=by decide+kernel
 have h:=List.all_eq_true.mp h k hk
 unfold kUsed at h
 unfold usedIt
 by_cases hu:k.uri∈u4
 ·rw[if_pos (List.contains_iff_mem.mpr hu)] at h
  obtain ⟨a,h⟩:=Bool.and_eq_true_iff.mp h
  obtain ⟨b,c⟩:=Bool.and_eq_true_iff.mp h
  have b':¬ (Txt.slice k.full none (some 4)=="xml:")=true:=by rw[(Bool.not_eq_true' _).mp b]; exact Bool.false_ne_true
  rw[if_pos hu,if_pos a,if_neg b',show labN (k.full,x).1=lab k.uri from beq_iff_eq.mp c]; rfl
 ·rw[if_neg fun q=>hu (List.contains_iff_mem.mp q)] at h
  rw[if_neg hu]
  rcases Bool.or_eq_true_iff.mp h with a | b
  ·rw[if_neg (by rw[(Bool.not_eq_true' _).mp a]; exact Bool.false_ne_true)]
  ·by_cases c:Txt.contains k.full ":"=true
   ·rw[if_pos c,if_pos b]
   ·rw[if_neg c]
theorem addE_mem{U:List Str}{x y:Str}:y∈addE U x↔y∈U∨y=x:=by
 unfold addE
 by_cases h:U.contains x=true
 ·rw[if_pos h]
  exact ⟨.inl,fun q=>q.elim id fun e=>e▸List.contains_iff_mem.mp h⟩
 ·rw[if_neg h,List.mem_append,List.mem_singleton]
theorem addE_nd{U:List Str}{x:Str}(hn:U.Nodup):(addE U x).Nodup:=by
 unfold addE
 by_cases h:U.contains x=true
 ·rw[if_pos h]; exact hn
 ·rw[if_neg h]
  exact List.nodup_append.mpr ⟨hn,nd_one x,fun a ha b hb e=>h (by rw[← List.mem_singleton.mp hb,← e]; exact List.contains_iff_mem.mpr ha)⟩
theorem used_mem{l:List (Nm×Str)}:∀ {U:List Str},(∀ p∈l,p.1∈k4)→U.Nodup→((l.map fun p=>(p.1.full,itemP (atN p))).foldl usedIt U).Nodup∧∀ x,x∈(l.map fun p=>(p.1.full,itemP (atN p))).foldl usedIt U↔x∈U∨∃ p∈l,p.1.uri∈u4∧x=lab p.1.uri:=by
 induction l with
 | nil=>exact fun {U} ι hn=>⟨hn,fun x=>⟨.inl,fun q=>q.elim id fun ⟨_,h,_⟩=>nomatch h⟩⟩
 | cons p l ih =>
  intro U hk hn
  have e:((p::l).map fun p=>(p.1.full,itemP (atN p))).foldl usedIt U=(l.map fun p=>(p.1.full,itemP (atN p))).foldl usedIt (usedIt U (p.1.full,itemP (atN p))):=rfl
  rw[e,k4_used (hk p (.head _))]
  by_cases hu:p.1.uri∈u4
  ·rw[if_pos hu]
   obtain ⟨a,b⟩:=ih (U:=addE U (lab p.1.uri)) (fun q hq=>hk q (.tail _ hq)) (addE_nd hn)
   refine ⟨a,fun x=>(b x).trans ⟨fun q => ?_,fun q => ?_⟩⟩
   ·rcases q with q | ⟨r,h1,h2⟩
    ·exact (addE_mem.mp q).elim .inl fun e => .inr ⟨p,.head _,hu,e⟩
    ·exact .inr ⟨r,.tail _ h1,h2⟩
   ·rcases q with q | ⟨r,h1,h2,h3⟩
    ·exact .inl (addE_mem.mpr (.inl q))
    ·rcases List.mem_cons.mp h1 with rfl | h1
     ·exact .inl (addE_mem.mpr (.inr h3))
     ·exact .inr ⟨r,h1,h2,h3⟩
  ·rw[if_neg hu]
   obtain ⟨a,b⟩:=ih (U:=U) (fun q hq=>hk q (.tail _ hq)) hn
   refine ⟨a,fun x=>(b x).trans ⟨fun q => ?_,fun q => ?_⟩⟩
   ·exact q.elim .inl fun ⟨r,h1,h2⟩ => .inr ⟨r,.tail _ h1,h2⟩
   ·rcases q with q | ⟨r,h1,h2,h3⟩
    ·exact .inl q
    ·rcases List.mem_cons.mp h1 with rfl | h1
     ·exact absurd h2 hu
     ·exact .inr ⟨r,h1,h2,h3⟩
theorem q_inj:∀ a∈kn,∀ b∈kn,a.q=b.q→a.uri=b.uri:=by
 have h:kn.all (fun a=>kn.all fun b => !(a.q==b.q)||a.uri==b.uri)=true:=by decide+kernel
 intro a ha b hb e
 have:=List.all_eq_true.mp (List.all_eq_true.mp h a ha) b hb
 rw[e,beq_self_eq_true] at this
 exact beq_iff_eq.mp this
theorem ms_uri{m:Nm}(hm:m∈t4){l:List (Nm×Str)}(hl:AtOk l){u:Str}:(∃ n∈msOf m l,n.uri=u)↔u=m.uri∨∃ p∈l,u=p.1.uri:=by
 refine ⟨fun ⟨n,h1,h2⟩ => ?_,fun q => ?_⟩
 ·obtain ⟨h3,h4⟩:=List.mem_filter.mp h1
  rcases List.mem_cons.mp (List.contains_iff_mem.mp h4) with e | h4
  ·exact .inl (h2.symm.trans (q_inj n h3 m (t4_kn m hm) e))
  ·obtain ⟨p,hp,e⟩:=List.mem_map.mp h4
   exact .inr ⟨p,hp,h2.symm.trans (q_inj n h3 p.1 (k4_kn _ (hl.mem p hp)) e.symm)⟩
 ·rcases q with e | ⟨p,hp,e⟩
  ·exact ⟨m,List.mem_filter.mpr ⟨t4_kn m hm,List.contains_iff_mem.mpr (.head _)⟩,e.symm⟩
  ·exact ⟨p.1,List.mem_filter.mpr ⟨k4_kn _ (hl.mem p hp),List.contains_iff_mem.mpr (.tail _ (List.mem_map.mpr ⟨p,hp,rfl⟩))⟩,e.symm⟩
theorem usedL_ok{m:Nm}(hm:m∈t4){l:List (Nm×Str)}(hl:AtOk l){new:List Str}{x:Str}:(usedL (mkS m new l x)).Nodup∧∀ y,y∈usedL (mkS m new l x)↔∃ u∈u4,(∃ n∈msOf m l,n.uri=u)∧y=lab u:=by
 have h5:l.length≤5:=Nat.le_succ_of_le hl.len
 have hs:=(sAt_mem h5).1
 have ha:∀ p∈l,p∈sAt l:=srt_all h5
 obtain ⟨tl,tu⟩:=t4_lab m hm
 have e:usedL (mkS m new l x)=((sAt l).map fun p=>(p.1.full,itemP (atN p))).foldl usedIt [lab m.uri]:=by rw[← tl]; rfl
 rw[e]
 obtain ⟨a,b⟩:=used_mem (l:=sAt l) (U:=[lab m.uri]) (fun p hp=>hl.mem p (hs p hp)) (nd_one _)
 refine ⟨a,fun y=>(b y).trans ⟨fun q => ?_,fun ⟨u,h1,h2,h3⟩ => ?_⟩⟩
 ·rcases q with q | ⟨p,h1,h2,h3⟩
  ·exact ⟨m.uri,tu,(ms_uri hm hl).mpr (.inl rfl),List.mem_singleton.mp q⟩
  ·exact ⟨p.1.uri,h2,(ms_uri hm hl).mpr (.inr ⟨p,hs p h1,rfl⟩),h3⟩
 ·rcases (ms_uri hm hl).mp h2 with e | ⟨p,hp,e⟩
  ·exact .inl (by rw[h3,e]; exact .head _)
  ·exact .inr ⟨p,ha p hp,e▸h1,by rw[h3,e]⟩
theorem mem_us{lv:List (List Str)}{u:Str}(hu:u∈u4):u∈us lv↔∃ D∈lv,u∈D:=by
 unfold us
 have hx:u≠xmlU:=fun q=>by
  have:xmlU∉u4:=by decide+kernel
  exact this (q▸hu)
 rw[List.mem_append,List.mem_flatten]
 refine ⟨fun q => ?_,fun ⟨D,h1,h2⟩ => .inl ⟨D,List.mem_reverse.mpr h1,h2⟩⟩
 rcases q with ⟨D,h1,h2⟩ | q
 ·exact ⟨D,List.mem_reverse.mp h1,h2⟩
 ·exact absurd (List.mem_singleton.mp q) hx
theorem newS_eq{m:Nm}(hm:m∈t4){l:List (Nm×Str)}(hl:AtOk l){new:List Str}{x:Str}{lv:List (List Str)}(h4:∀ D∈lv,∀ u∈D,u∈u4)(hO:(usedL (mkS m new l x)).length≤5):
  newS (lv.map fun D=>D.map lab) (mkS m new l x)=(newU (us lv) m l).map lab:=by
 obtain ⟨a,b⟩:=usedL_ok hm hl (new:=new) (x:=x)
 obtain ⟨n1,n2⟩:=newU_ok (us:=us lv) (tag:=m) (at':=l)
 have nin:∀ u∈u4,(((lv.map fun D=>D.map lab).all fun p => !(p.contains (lab u)))=true↔u∉us lv):=fun u hu=>by
  rw[mem_us hu,List.all_eq_true]
  refine ⟨fun h ⟨D,h1,h2⟩ => ?_,fun h p hp => ?_⟩
  ·have:=h _ (List.mem_map.mpr ⟨D,h1,rfl⟩)
   rw[List.contains_iff_mem.mpr (List.mem_map.mpr ⟨u,h2,rfl⟩)] at this
   exact noB this
  ·obtain ⟨D,hD,rfl⟩:=List.mem_map.mp hp
   refine (Bool.not_eq_true' _).mpr (Bool.eq_false_iff.mpr fun q => ?_)
   obtain ⟨v,hv,e⟩:=List.mem_map.mp (List.contains_iff_mem.mp q)
   exact h ⟨D,hD,lab_inj v (h4 D hD v hv) u hu e▸hv⟩
 unfold newS sortS
 rw[srt_known labs_pw labs_nd (a.filter _) (Nat.le_trans (List.length_filter_le _ _) hO) fun y hy=>by
  obtain ⟨u,h1,_,h3⟩:=(b y).mp (List.mem_filter.mp hy).1
  exact List.mem_map.mpr ⟨u,h1,h3.symm⟩]
 unfold labs4
 rw[List.filter_map]
 refine congrArg (List.map lab) (filt_u4 n1 fun u=>(n2 u).trans ?_)
 refine ⟨fun ⟨h1,h2,h3⟩=>⟨h1,?_⟩,fun ⟨h1,h2⟩ => ?_⟩
 ·exact List.contains_iff_mem.mpr (List.mem_filter.mpr ⟨(b _).mpr ⟨u,h1,h3,rfl⟩,(nin u h1).mpr h2⟩)
 ·obtain ⟨h3,h4'⟩:=List.mem_filter.mp (List.contains_iff_mem.mp h2)
  obtain ⟨v,hv,h5,e⟩:=(b _).mp h3
  have e:=lab_inj u h1 v hv e
  exact ⟨h1,(nin u h1).mp h4',e▸h5⟩
section
theorem cutC_st{d:Loc}{h:Hd}{T:List Hd}{ls:List (List Str)}(hs:h.st=true):cutC d (h::T) ls=piS d h (newS ls h)::cutC d T (ls++[newS ls h]):=if_pos hs
theorem cutK_st0{d:Loc}{h:Hd}{T:List Hd}(hs:h.st=true):cutK d (h::T) 0=piS d h (newS [] h)::cutC d T [newS [] h]:=if_pos hs
theorem cutK_st{d:Loc}{h:Hd}{T:List Hd}{j:Nat}(hs:h.st=true):cutK d (h::T) (j+1)=cutK d T j:=if_pos hs
theorem cutC_en{d:Loc}{h:Hd}{T:List Hd}{ls:List (List Str)}(hs:h.st=false):cutC d (h::T) ls=if ls.length=1 then [piE h ""] else piE h h.text::cutC d T ls.dropLast:=if_neg (by rw[hs]; exact Bool.false_ne_true)
theorem cutK_en{d:Loc}{h:Hd}{T:List Hd}{j:Nat}(hs:h.st=false):cutK d (h::T) j=cutK d T j:=if_neg (by rw[hs]; exact Bool.false_ne_true)
theorem join_sp{L:List (Str×Str)}:∀ {a:Str},Txt.join " " (a::L.map itemP)=a++cat (L.map atE):=by
 have g:∀ {a:Str},(Str.join ⟨#[32]⟩ (a::L.map itemP)).cps.toList=(a++cat (L.map atE)).cps.toList:=by
  induction L with
  | nil=>exact fun {a}=>by rw[show cat (([]:List (Str×Str)).map atE)=Str.empty from rfl,Str.append_empty]; rfl
  | cons p L ih =>
   intro a
   rw[List.map_cons,glue_cons 32 a _ (List.cons_ne_nil _ _),ih]
   show _=(a++(atE p++cat (L.map atE))).cps.toList
   rw[atE_item,tl_app,tl_app,tl_app,tl_app]
   rw[List.append_assoc]; rfl
 intro a
 rw[sp_eq]
 exact (StrLaws.glued_eq_join _ _).trans (str_ext g)
theorem say_lab{d:Loc}{S:List Str}(h:SInv d S){u:Str}(hu:u∈S):sayG d (lab u)=itemP (labP u):=by
 unfold sayG
 rw[(h u hu).2]
theorem piS_eq{d:Loc}{S:List Str}(h:SInv d S){m:Nm}{l:List (Nm×Str)}{nW nP:List Str}{x:Str}(hn:∀ u∈nP,u∈S):piS d (mkS m nW l x) (nP.map lab)=lt1 (mkS m nP l x):=by
 have e:rowS d (mkS m nW l x) (nP.map lab)=m.full::(nP.map labP++(sAt l).map atN).map itemP:=by
  show ([m.full]++(nP.map lab).map (sayG d))++((sAt l).map fun p=>(p.1.full,itemP (atN p))).map (·.2)=_
  rw[List.map_map,List.map_map,List.map_append,List.map_map,List.map_map]
  have:nP.map (sayG d∘lab)=nP.map (itemP∘labP):=List.map_congr_left fun u hu=>say_lab h (hn u hu)
  rw[this]; rfl
 unfold piS
 rw[e,join_sp]
 show "<"++hdT m (nP.map labP++(sAt l).map atN)++">"++x="<"++(hdT m (nP.map labP++(sAt l).map atN)++">"++x)
 simp only[Str.append_assoc]
theorem new_sub{S:List Str}{m:Nm}{l:List (Nm×Str)}{lvW lvP:List (List Str)}(h1:∀ D∈lvW,∀ u∈D,u∈S)(h2:∀ u∈newU (us lvW) m l,u∈S):∀ u∈newU (us lvP) m l,u∈S:=fun u hu=>by
 obtain ⟨a,_,c⟩:=(newU_ok.2 u).mp hu
 by_cases h:u∈us lvW
 ·obtain ⟨D,hD,hu⟩:=(mem_us a).mp h
  exact h1 D hD u hu
 ·exact h2 u ((newU_ok.2 u).mpr ⟨a,h,c⟩)
theorem new_u4{lv:List (List Str)}{m:Nm}{l:List (Nm×Str)}:∀ u∈newU (us lv) m l,u∈u4:=fun u hu=>((newU_ok.2 u).mp hu).1
theorem snoc_all{α:Type}{Q:α→Prop}{l:List α}{a:α}(h:∀ x∈l,Q x)(ha:Q a):∀ x∈l++[a],Q x:=fun x hx=>(List.mem_append.mp hx).elim (h x) fun q=>List.mem_singleton.mp q▸ha
theorem piE_eq(m:Nm)(x y:Str):piE (mkE m x) y=lt1 (mkE m y):=by
 show "<"++("/"++m.full)++">"++y="<"++("/"++m.full++">"++y)
 simp only[Str.append_assoc]
theorem new_lab{m:Nm}(h1:m∈t4){l:List (Nm×Str)}(h2:AtOk l)(h3:∀ p∈l,p.2∈vals4){lvW lvP:List (List Str)}(h4:∀ D∈lvP,∀ u∈D,u∈u4){x:Str}(hx:x.length≤900000):newS (lvP.map fun D=>D.map lab) (mkS m (newU (us lvW) m l) l x)=(newU (us lvP) m l).map lab :=
 newS_eq h1 h2 h4 (used_ok (mkS_ok h1 new_u4 newU_len h2 h3 hx)).1
set_option tactic.hygienic true in
theorem cut_toks{dd:Loc}{S:List Str}(hS:SInv dd S){E:List Et}:∀ {D d:Nat} {lvW lvP:List (List Str)},WF D E→E.length≤100→lvP.length=d+1→(∀ D∈lvP,∀ u∈D,u∈u4)→(∀ D∈lvW,∀ u∈D,u∈S)→(∀ u∈decls E lvW,u∈S) →
  cutC dd (toks E lvW) (lvP.map fun D=>D.map lab)=(toks (colE d E) lvP).map lt1:=by
 induction E with
 | nil=>exact fun ι ι ι ι ι ι=>rfl
 | cons e E ih =>
  intro D d lvW lvP hw hl hd hP hW hDc
  rw[List.length_cons] at hl
  cases hw with
  | st h0 h1 h2 h3 h4 =>
   rename_i m l
   have hx:=txt_len h4 (by trivial)
   have hDc':∀ u∈newU (us lvW) m l++decls E (lvW++[newU (us lvW) m l]),u∈S:=hDc
   have hnS:=new_sub (lvP:=lvP) hW fun u hu=>hDc' u (List.mem_append.mpr (.inl hu))
   have g:=ih (d:=d+1) (lvW:=lvW++[newU (us lvW) m l]) (lvP:=lvP++[newU (us lvP) m l]) h4 (by trivial) (by rw[List.length_append,hd]; rfl) (snoc_all hP new_u4) (snoc_all hW fun u hu=>hDc' u (List.mem_append.mpr (.inl hu))) fun u hu=>hDc' u (List.mem_append.mpr (.inr hu))
   have en:=new_lab h1 h2 h3 (lvW:=lvW) hP (x:=escC (cat (txs E))) (by trivial)
   have e1:cutC dd (mkS m (newU (us lvW) m l) l (escC (cat (txs E)))::toks E (lvW++[newU (us lvW) m l])) (lvP.map fun D=>D.map lab)=piS dd (mkS m (newU (us lvW) m l) l (escC (cat (txs E)))) (newS (lvP.map fun D=>D.map lab) (mkS m (newU (us lvW) m l) l (escC (cat (txs E)))))::cutC dd (toks E (lvW++[newU (us lvW) m l])) ((lvP.map fun D=>D.map lab)++[newS (lvP.map fun D=>D.map lab) (mkS m (newU (us lvW) m l) l (escC (cat (txs E))))]):=cutC_st rfl
   rw[en,piS_eq hS hnS] at e1
   rw[List.map_append] at g
   refine e1.trans ?_
   have e2:toks (colE d (.st m l::E)) lvP=mkS m (newU (us lvP) m l) l (escC (cat (txs (colE (d+1) E))))::toks (colE (d+1) E) (lvP++[newU (us lvP) m l]):=rfl
   rw[e2,txs_col,List.map_cons]
   exact congrArg (_ :: ·) g
  | en h1 h2 h3 =>
   rename_i m
   have e1:cutC dd (mkE m (escC (cat (txs E)))::toks E lvW.dropLast) (lvP.map fun D=>D.map lab)=if (lvP.map fun D=>D.map lab).length=1 then [piE (mkE m (escC (cat (txs E)))) ""] else piE (mkE m (escC (cat (txs E)))) (escC (cat (txs E)))::cutC dd (toks E lvW.dropLast) (lvP.map fun D=>D.map lab).dropLast:=cutC_en rfl
   rw[List.length_map,hd,piE_eq,piE_eq] at e1
   refine e1.trans ?_
   cases d with
   | zero =>
    rw[if_pos rfl]
    show _=[lt1 (mkE m (escC Str.empty))]
    have e0:("":Str)=Str.empty:=by kernel_rfl
    rw[escC_nil,e0]
   | succ d =>
    rw[if_neg (by trivial)]
    have e2:toks (colE (d+1) (.en m::E)) lvP=mkE m (escC (cat (txs (colE d E))))::toks (colE d E) lvP.dropLast:=rfl
    rw[e2,txs_col,List.map_cons,← List.map_dropLast]
    exact congrArg (_ :: ·) (ih (lvW:=lvW.dropLast) (lvP:=lvP.dropLast) h3 (by trivial) (by rw[List.length_dropLast,hd]; rfl) (fun D h=>hP D ((List.dropLast_sublist _).subset h)) (fun D h=>hW D ((List.dropLast_sublist _).subset h)) hDc)
  | tx h1 h2=>exact ih (lvW:=lvW) (lvP:=lvP) h2 (by trivial) hd hP hW hDc
theorem us_nil_u4:∀ D∈([]:List (List Str)),∀ u∈D,u∈u4:=fun ι h=>nomatch h
set_option tactic.hygienic true in
theorem cut_skip{dd:Loc}{S:List Str}(hS:SInv dd S){E:List Et}:∀ {D j:Nat} {lvW:List (List Str)},WF D E→E.length≤100→(∀ D∈lvW,∀ u∈D,u∈S)→(∀ u∈decls E lvW,u∈S)→cutK dd (toks E lvW) j=(toks (skipE j E) []).map lt1:=by
 induction E with
 | nil=>exact fun ι ι ι ι=>rfl
 | cons e E ih =>
  intro D j lvW hw hl hW hDc
  rw[List.length_cons] at hl
  cases hw with
  | st h0 h1 h2 h3 h4 =>
   rename_i m l
   have hx:=txt_len h4 (by trivial)
   have hDc':∀ u∈newU (us lvW) m l++decls E (lvW++[newU (us lvW) m l]),u∈S:=hDc
   have hWn:=snoc_all hW fun u hu=>hDc' u (List.mem_append.mpr (.inl hu))
   have hDn:∀ u∈decls E (lvW++[newU (us lvW) m l]),u∈S:=fun u hu=>hDc' u (List.mem_append.mpr (.inr hu))
   cases j with
   | succ j =>
    have e1:cutK dd (mkS m (newU (us lvW) m l) l (escC (cat (txs E)))::toks E (lvW++[newU (us lvW) m l])) (j+1)=cutK dd (toks E (lvW++[newU (us lvW) m l])) j:=cutK_st rfl
    exact e1.trans (ih (j:=j) h4 (by trivial) hWn hDn)
   | zero =>
    have hnS:=new_sub (lvP:=[]) hW fun u hu=>hDc' u (List.mem_append.mpr (.inl hu))
    have en:=new_lab h1 h2 h3 (lvW:=lvW) us_nil_u4 (x:=escC (cat (txs E))) (by trivial)
    rw[List.map_nil] at en
    have e1:cutK dd (mkS m (newU (us lvW) m l) l (escC (cat (txs E)))::toks E (lvW++[newU (us lvW) m l])) 0=piS dd (mkS m (newU (us lvW) m l) l (escC (cat (txs E)))) (newS [] (mkS m (newU (us lvW) m l) l (escC (cat (txs E)))))::cutC dd (toks E (lvW++[newU (us lvW) m l])) [newS [] (mkS m (newU (us lvW) m l) l (escC (cat (txs E))))]:=cutK_st0 rfl
    rw[en,piS_eq hS hnS] at e1
    refine e1.trans ?_
    have g:=cut_toks hS (d:=0) (lvW:=lvW++[newU (us lvW) m l]) (lvP:=[newU (us []) m l]) h4 (by trivial) rfl (fun D h=>by rw[List.mem_singleton.mp h]; exact new_u4) hWn hDn
    have e2:toks (skipE 0 (.st m l::E)) []=mkS m (newU (us []) m l) l (escC (cat (txs (colE 0 E))))::toks (colE 0 E) [newU (us []) m l]:=rfl
    rw[e2,txs_col,List.map_cons]
    exact congrArg (_ :: ·) g
  | en h1 h2 h3 =>
   rename_i m
   have e1:cutK dd (mkE m (escC (cat (txs E)))::toks E lvW.dropLast) j=cutK dd (toks E lvW.dropLast) j:=cutK_en rfl
   exact e1.trans (ih (j:=j) (lvW:=lvW.dropLast) h3 (by trivial) (fun D h=>hW D ((List.dropLast_sublist _).subset h)) hDc)
  | tx h1 h2=>exact ih (j:=j) (lvW:=lvW) h2 (by trivial) hW hDc
end
theorem wf0_txs{E:List Et}(h:WF 0 E):txs E=[]:=by
 generalize hD:0=D at h
 cases h with
 | nil=>rfl
 | st=>rfl
 | en=>exact nomatch hD
 | tx=>exact nomatch hD
theorem told_wf{E:List Et}(h:WF 0 E):told E=cat ((toks E []).map lt1):=by
 have g:=told_toks (T:=T0) (E:=E) (fun ι=>rfl) h
 have e:cat (T0.out)=Str.empty:=rfl
 have e2:T0.dat++txs E=[]:=by rw[wf0_txs h]; rfl
 rw[e,e2,show cat []=Str.empty from rfl,escC_nil,Str.empty_append,Str.empty_append] at g
 exact g
theorem col_len{E:List Et}:∀ {d:Nat},(colE d E).length≤E.length:=by
 induction E with
 | nil=>exact fun {d}=>Nat.le_refl _
 | cons e E ih =>
  intro d
  cases e with
  | st m l=>exact Nat.succ_le_succ (ih (d:=d+1))
  | tx x=>exact Nat.succ_le_succ (ih (d:=d))
  | en m=>cases d with
   | zero=>exact Nat.succ_le_succ (Nat.zero_le _)
   | succ d=>exact Nat.succ_le_succ (ih (d:=d))
theorem skip_len{E:List Et}:∀ {j:Nat},(skipE j E).length≤E.length:=by
 induction E with
 | nil=>exact fun {j}=>Nat.le_refl _
 | cons e E ih =>
  intro j
  cases e with
  | st m l=>cases j with
   | zero=>exact Nat.succ_le_succ col_len
   | succ j=>exact Nat.le_succ_of_le (ih (j:=j))
  | tx x=>exact Nat.le_succ_of_le (ih (j:=j))
  | en m=>exact Nat.le_succ_of_le (ih (j:=j))
theorem told_len{E:List Et}(h:WF 0 E)(hl:E.length≤100):(told E).length≤1000000:=by
 obtain ⟨a,b⟩:=toks_ok (lv:=[]) h hl
 rw[told_wf h]
 have:=cat_len (l:=(toks E []).map lt1) (c:=5001) fun x hx=>by
  obtain ⟨t,ht,rfl⟩:=List.mem_map.mp hx
  have:=(a t ht).2.2
  unfold lt1
  rw[sLen]
  show 1+_≤_
  trivial
 rw[List.length_map] at this
 trivial
theorem law_p{E:List Et}(h:WF 0 E)(hl:E.length≤69)(h1:1≤(E.filter isSt).length):LawP E:=by
 obtain ⟨a,b⟩:=toks_ok (lv:=[]) h (by trivial)
 have hS:SInv (saidT [] (toks E [])) ([]++decls E []):=said_toks h fun u hu=>nomatch hu
 rw[List.nil_append] at hS
 refine ⟨good0 h (by trivial),told_len h (by trivial),by trivial,h1,Str.empty,toks E [],?_,fun t ht=>(a t ht).1,by trivial,fun j => ?_⟩
 ·rw[told_wf h]; exact split_whole fun t ht=>(a t ht).2.1
 ·have hw:=skip_wf (j:=j) h
  have hl':=skip_len (E:=E) (j:=j)
  refine ⟨good0 hw (by trivial),?_,Nat.le_trans (told_len hw (by trivial)) (by decide)⟩
  rw[told_wf hw,cut_skip hS (j:=j) (lvW:=[]) h (by trivial) (fun ι h=>nomatch h) fun u hu=>hu]
theorem rw_dr0138_03_holds:PySem.Challenge.rw_dr0138_03.Holds :=
 glue03 fun P sa is hl=>run_law3 hl fun xs hne hx=>let ⟨a,b,c⟩:=evs_ok hne hx; law_p a b c
end Mine
end
open PySem PySem.W PyProof.Rows
theorem PySem.Challenge.cw_dr0138_03_holds : PySem.Challenge.rw_dr0138_03.Holds := by
 exact Mine.rw_dr0138_03_holds
