import PyProof.Rows.All
import Wide.All
import OpenK.AllK
import Wide.FinOn
import KE.KRevIter
import KE.KNestM
import PySem.Challenge.RW_dr0138_05
set_option Elab.async false
set_option bootstrap.genMatcherCode false
set_option genSizeOf false
set_option genInjectivity false
set_option linter.all false
section
open PySem PySem.W PyProof.Rows
set_option maxRecDepth 100000
set_option maxHeartbeats 8000000
namespace Mine
noncomputable def pre.tw2861093354076361401:Program:=PySem.Challenge.pw_dr0138_05
theorem pre.te2861093354076361401:PySem.Challenge.pw_dr0138_05=pre.tw2861093354076361401:=rfl
set_option Elab.async true in
theorem pre:decide (PySem.Challenge.pw_dr0138_05.main.body.length=16)=true:=by
 k_qdec
theorem pre2:True:=by trivial
end Mine
open_top hd for PySem.Challenge.rw_dr0138_05
end
section
open PySem PySem.W PyProof.Rows PySem.SeqAt
set_option maxRecDepth 100000
set_option maxHeartbeats 8000000
set_option tactic.hygienic false
namespace Mine.Internal
noncomputable section
def aj:=@wpAny_bind
def ak:=@wpAny_pure
def ao:=@wpAny_holding
def aq:=@Heap.get?_push_of_some
def au{α:Type}{a b:α}(h:a∈[b]):a=b:=List.mem_singleton.mp h
def aA{α:Type}{a b:α}{l:List α}(h:a∈b::l):a=b ∨ a∈l:=List.mem_cons.mp h
def aB:=@List.length_map
def aC:=@List.length_append
def aD{α:Type}{a:α}{s t:List α}(h:a∈s++t):a∈s ∨ a∈t:=List.mem_append.mp h
def aF{α β:Type}{f:α→β}{l:List α}{b:β}(h:b∈l.map f):∃a,a∈l ∧ f a=b:=List.mem_map.mp h
def aG:=@List.mem_append_right
def aH:=@List.map_append
def aJ:=@List.mem_map_of_mem
def aK:=@Nat.le_trans
def aM:=@Nat.lt_of_lt_of_le
def aN:=@Nat.lt_succ_self
def aO:=@List.length_cons
def aX:=@List.append_nil
def aQ:=@List.append_assoc
def aR:=@List.map_map
def aU:=@Nat.lt_of_le_of_lt
def aV:=@Heap.lt_size
def aW:=@wpAny_standAt
def aY:=@Nat.ne_of_lt
def aZ{x y:Bool}(h:(x&&y)=true):x=true ∧ y=true:=Bool.and_eq_true_iff.mp h
def bh:=@Option.some.inj
def bk:=@List.getElem?_eq_getElem
def bw:=@List.getD_eq_getElem?_getD
def bx:=@List.lookup_cons
def bA:=@beq_self_eq_true
def bB:=@beq_false_of_ne
def bC{α:Type}[BEq α][LawfulBEq α]{a:α}{l:List α}(h:a∈l):l.contains a=true:=List.contains_iff_mem.mpr h
def bD{α:Type}[BEq α][LawfulBEq α]{a:α}{l:List α}(h:l.contains a=true):a∈l:=List.contains_iff_mem.mp h
def bF{α:Type}{p:α→Bool}{a:α}{l:List α}(h:a∈l.filter p):a∈l ∧ p a=true:=List.mem_filter.mp h
def bG:=@wpAny_mono
def bH:=@wpAny_of_eq
def bI:=@plainId_quiet
def bJ:=@codeAny_builtin
def bK:=@codeAny_of_tree
def bL:=@Array.getElem?_toList
def bM:=@Nat.lt_of_le_of_ne
def bN:=@Nat.zero_le
def bO:=@Nat.le_of_ble_eq_true
def bQ:=@Array.length_toList
def bR:=@Heap.get?_push_size
def bT:=@Nat.le_refl
def bU:=@Heap.size_push
def bV:=@Heap.get?_update_self
def bW:=@List.getElem?_map
def bY:=@List.mem_of_getElem?
def bZ:=@Array.getElem?_eq_getElem
def cg:=@List.size_toArray
def cj:=@Nat.le_of_lt
def cu:=@Nat.succ_le_succ
def cA:=@Nat.lt_trans
def cB:=@List.nodup_cons
def cC:=@List.map_cons
def cD:=@Nat.le_of_lt_succ
def cF:=@Nat.le_succ
def cG:=@List.perm_middle
def cH:=@List.mem_append_left
def cI:=@List.contains_iff_mem
noncomputable abbrev cJ:=@Str.empty
def cL:=@List.filterMap_cons
def cM:=@Nat.add_le_add_left
def cN:=@List.lookup_cons_self
def cO:=@Bool.not_eq_true'
def cP:=@List.map_congr_left
def cQ:=@List.mem_cons_self
def cR:=@List.not_mem_nil
def cT:=@List.filter_cons
def cU:=@List.foldl_append
def cV:=@List.reverse_cons
def cW:=@List.length_reverse
def cX:=@List.flatMap_cons
def cY:=@List.sublist_append_left
def cZ:=@Nat.le_succ_of_le
def c7:=@List.perm_append_comm
def dg:=@Nat.add_le_add
noncomputable abbrev dh:=@Str.empty_append
def dj:=@Str.append_assoc
def dz:=@Str.append_empty
def dD:=@List.map_reverse
def dF:=@List.length_filter_le
def dG:=@List.cons_ne_nil
def le_t{n m k:Nat}(h:n<=m)(a:m.ble k=true):n<=k:=aK h (bO a)
def lt_t(h:n<=m)(a:(m+1).ble k=true):n<k:=aU h (bO a)
@[elab_as_elim] theorem rwl {α:Sort u} {a b:α} {m:α->Prop} (h:a=b) (p:m b):m a:=h▸p
def ex03{p q r G:Prop}(h:p/\q/\r)(k:p->q->r->G):G:=k h.1 h.2.1 h.2.2
def ex04{p q r s G:Prop}(h:p/\q/\r/\s)(k:p->q->r->s->G):G:=k h.1 h.2.1 h.2.2.1 h.2.2.2
def ex05{p q r s t G:Prop}(h:p/\q/\r/\s/\t)(k:p->q->r->s->t->G):G:=k h.1 h.2.1 h.2.2.1 h.2.2.2.1 h.2.2.2.2
def ex13{α:Sort u}{p q:α->Prop}{G:Prop}(h:∃x,p x/\q x)(k:∀x,p x->q x->G):G:=h.elim λx h=>k x h.1 h.2
def ex14{α:Sort u}{p q r:α->Prop}{G:Prop}(h:∃x,p x/\q x/\r x)(k:∀x,p x->q x->r x->G):G:=h.elim λx h=>k x h.1 h.2.1 h.2.2
def ex15{α:Sort u}{p q r s:α->Prop}{G:Prop}(h:∃x,p x/\q x/\r x/\s x)(k:∀x,p x->q x->r x->s x->G):G:=h.elim λx h=>k x h.1 h.2.1 h.2.2.1 h.2.2.2
def ex23{α:Sort u}{β:Sort v}{p:α->β->Prop}{G:Prop}(h:∃x y,p x y)(k:∀x y,p x y->G):G:=h.elim λx h=>h.elim λy h=>k x y h
def ex35{α:Sort u}{β:Sort v}{γ:Sort w}{p q:α->β->γ->Prop}{G:Prop}(h:∃x y z,p x y z/\q x y z)(k:∀x y z,p x y z->q x y z->G):G:=h.elim λx h=>h.elim λy h=>h.elim λz h=>k x y z h.1 h.2
def ex36{α:Sort u}{β:Sort v}{γ:Sort w}{p q r:α->β->γ->Prop}{G:Prop}(h:∃x y z,p x y z/\q x y z/\r x y z)(k:∀x y z,p x y z->q x y z->r x y z->G):G:=h.elim λx h=>h.elim λy h=>h.elim λz h=>k x y z h.1 h.2.1 h.2.2
def ex39{α:Sort u}{β:Sort v}{γ:Sort w}{p q r s t u:α->β->γ->Prop}{G:Prop}(h:∃x y z,p x y z/\q x y z/\r x y z/\s x y z/\t x y z/\u x y z)(k:∀x y z,p x y z->q x y z->r x y z->s x y z->t x y z->u x y z->G):G:=h.elim λx h=>h.elim λy h=>h.elim λz h=>k x y z h.1 h.2.1 h.2.2.1 h.2.2.2.1 h.2.2.2.2.1 h.2.2.2.2.2
set_option compiler.extract_closed false
def V7(s r:String)(a:Array Lean.Syntax):Lean.Syntax:=((((r++"# 1Tactic.tacticSeq1Indented 1Tactic.tacticSeq").splitOn "~").foldl (λs p=>(p.drop 1).toString.intercalate (s.splitOn (p.take 1).toString)) s).splitOn " ").foldl (λt x=>
 let c:=x.front
 let y:=(x.drop 1).toString
 if c.isDigit then
  let n:=t.size-(c.toNat-48)
  (t.shrink n).push (.node .none (if y="" then `null else if y="g" then `group else if y="h" then `hygieneInfo else("Lean.Parser."++y).toName) (t.extract n t.size))
 else t.push (if c='\'' then .atom .none y else if c='$' then a[y.toNat!]! else .ident .none x.toRawSubstring x.toName [])) #[]|>.back!
def rpu(b:Bool)(s:Lean.Syntax):Lean.MacroM Lean.Syntax:=if b then throw .unsupportedSyntax else pure s
local macro_rules (kind:=Lean.Parser.Tactic.lia)|s=>rpu (s[1][0].getNumArgs>0) (V7 "'first '| 'with_reducible X 1# 2Tactic.withReducibleZ 'with_reducible 'decide 0 1Tactic.optConfig 2Tactic.decide 1# 2Tactic.withReducibleZ Q '| XZ J 6 V '| Q '| '( 'apply Nat.le_transY '; X '; 'first '| XZ 'apply Nat.le_of_ltY '; X 3# 2g 2 2Tactic.first 5# ') 3Tactic.parenZ XZ J 7 V '| 'with_reducible '( '( 'first '| 'apply Nat.lt_of_lt_of_leYZ 'apply Nat.lt_of_le_of_ltYZ 'apply Nat.le_transY 1# 2g 3 2Tactic.first 1# ') 3Tactic.paren '; X '; X 5# ') 3Tactic.paren 1# 2Tactic.withReducibleZ 'decide 0 1Tactic.optConfig 2Tactic.decideZ 'lia '- abstractProof 2Tactic.negConfigItem 1Tactic.configItem 1 1Tactic.optConfig 2Tactic.lia 1# 2g '| 'trivial 1Tactic.tacticTrivial 1# 2g 8 2Tactic.first" "J'( 'apply Nat.le_of_ltY '; X 3# ') 3Tactic.parenZ 'apply Nat.add_le_addYZ 'apply Nat.mul_le_mulYZ '( 'apply Nat.le_of_eqY '; X 3# ') 3Tactic.parenZ 'exact Nat.le_refl '_ 1Term.hole 1 2Term.app 2Tactic.exact 1# 2g~Q'( '( 'with_reducible 'first '| 'apply lt_tYZ 'apply le_tY 1# 2g 2 2Tactic.first 1# 2Tactic.withReducible 1# ') 3Tactic.paren '; '( 'focus 'with_reducible 'repeat' 'first~V2Tactic.first 1# 2Tactic.repeat' 1# 2Tactic.withReducible 1# 2Tactic.focus 1# ') 3Tactic.paren '; 'exact rfl 2Tactic.exact 5# ') 3Tactic.paren 1# 2g~X'assumption 1Tactic.assumption~Y 2Tactic.apply~Z 1# 2g '|~" #[])
local macro_rules (kind:=Lean.Parser.Term.tuple)|s=>rpu (s[1].getNumArgs>0) (V7 "'by 'lia 0 1Tactic.optConfig 2Tactic.lia 1# 2Term.byTactic" "" #[])
local macro_rules (kind:=Lean.Parser.Tactic.decide)|s=>rpu s.isMissing (V7 "'exact Nat.le_of_ble_eq_true rfl 1 2Term.app 2Tactic.exact" "" #[])
local macro_rules (kind:=Lean.Parser.Tactic.«show»)|s=>rpu false (V7 "'refine '( x 1h 2Term.hygienicLParen '? '_ 2Term.syntheticHole ': $0 1 ') 5Term.typeAscription 2Tactic.refine" "" #[s[1]])
local macro_rules (kind:=Lean.Parser.Tactic.obtain)|s=>let x:=s[1][0][0][0][1].getSepArgs;rpu (x.size<3||(s.getPos? true).isNone) (V7 "'( '( 'first '| 'refine ex0@ % '| 'refine ex1@ % '| 'refine ex2@ % '| 'refine ex3@ % '| 'fail 0 2Tactic.fail 1# 2g 5 2Tactic.first 1# ') 3Tactic.paren '; 'rintro $1 0 3Tactic.rintro 3# ') 3Tactic.paren" ("%$0 '? '_ 2Term.syntheticHole 2 2Term.app 2Tactic.refine 1# 2g~@"++toString x.size++"~") #[s[3][1][0],.node .none `null (x.map λq=>V7 "'( $0 ') 3Tactic.rcasesPat.paren 1Tactic.rintroPat.one" "" #[q])])
local macro_rules (kind:=Lean.Parser.Tactic.rwSeq)|s=>let r:=s[2][1].getArgs;rpu (s[3].getNumArgs>0) (V7 "'( '( 'first '| '( '( 'fail_if_success '( 'fail_if_success % 1# 2Tactic.failIfSuccess 1# ') 3Tactic.paren 1# 2Tactic.failIfSuccess 1# ') 3Tactic.paren '; 'refine rwl $0 '? '_ 2Term.syntheticHole 2 2Term.app 2Tactic.refine 3# ') 3Tactic.paren 1# 2g '| % 1# 2g 2 2Tactic.first 1# ') 3Tactic.paren '; @ 3# ') 3Tactic.paren" ("%'rewrite $1 '[ $2 1 '] 3Tactic.rwRuleSeq 0 4Tactic.rewriteSeq~@"++(if r.size<2 then "'try 'with_reducible 'rfl 1Tactic.tacticRfl 1# 2Tactic.withReducible 1# 2Tactic.tacticTry_" else "$3")++"~") #[V7 (if r[0]![0].isNone then "@" else "Eq.symm @ 1 2Term.app") "@$0 '.. 1Term.ellipsis 1 2Term.app~" #[r[0]![1]],s[1],r[0]!,s.setArg 2 (s[2].setArg 1 (.node .none `null (r.extract 2 r.size)))])
local macro_rules (kind:=Lean.Parser.Command.declaration)|s=>rpu s.getPos?.isNone (s.setHeadInfo .none)
variable {P:PySem.Fin->Shared->Prop} {g t u k0 t1 y sp qual z vx uri ff f2 f3 pc kq kd du tq msg:Str} {ep k j slot n' d i m us lo k1 k2 depth line k3 lv pq al nv pf tb ky sg ev pa gn td ca nd sh qz ro:Nat} {S' S:Str->Bool} {A:Around} {E:Value->Shared->Prop} {src:Option Nat} {h' h₁:Heap} {vs first wk:List Value} {I C fa kS sl r1:Addr} {T:Env} {as:List Addr} {b pb br ba se dn:Bool} {ob:Obj} {r mv ig:Int} {pos apos ap p2 p3 p4 p5 yp Qk:Pos} {W ρ' gw je:Nat->Addr} {ps pn:List (Str×Str)} {cs ts ifs:List Expr} {fv cv ct acc:Value} {kws:List Keyword} {body b1 b2:List Stmt} {kindOf:Str->Option NameKind} {binds:List (Str×Value)} {names:List (Str×NameKind)} {fd:FuncData} {prog:Program} {w:World} {pl:Sem Bool} {T7:(Nat->Addr)->Heap->Addr->Prop} {s' s₀ s1:Shared} {tk:Tok} {params:Arguments} {scope:Scope} {out kn D0 N A2:List Str} {W7:Addr->Prop} {target iter elt value slice test:Expr} {gens:List Comprehension} {cells:List (Str×Addr)} {newAcc:Sem Value} {use:Option (Value->Sem Unit)} {ws:Array Value} {hi:Option Int} {mg:Str->Option Value} {js:List Nat} {G:Prop} {hl:List Bool} {pr:Str->Str}
section
inductive Ex2 {α β:Type} (p:α->β->Prop):Prop|mk (a:α) (b:β) (h:p a b):Ex2 p
inductive W6 {α β γ:Type} (p:α->β->γ->Prop):Prop|mk (a:α) (b:β) (c:γ) (h:p a b c):W6 p
inductive VD {α β γ δ:Type} (p:α->β->γ->δ->Prop):Prop|mk (a:α) (b:β) (c:γ) (d:δ) (h:p a b c d):VD p
inductive Ex6 {α β γ δ ε ζ:Type} (p:α->β->γ->δ->ε->ζ->Prop):Prop|mk (a:α) (b:β) (c:γ) (d:δ) (e:ε) (f:ζ) (h:p a b c d e f):Ex6 p
inductive Ex7 {α β γ δ ε ζ η:Type} (p:α->β->γ->δ->ε->ζ->η->Prop):Prop|mk (a:α) (b:β) (c:γ) (d:δ) (e:ε) (f:ζ) (g:η) (h:p a b c d e f g):Ex7 p
inductive Ex9 {α β γ δ ε ζ η θ U:Type} (p:α->β->γ->δ->ε->ζ->η->θ->U->Prop):Prop|mk (a:α) (b:β) (c:γ) (d:δ) (e:ε) (f:ζ) (g:η) (h:θ) (i:U) (h:p a b c d e f g h i):Ex9 p
inductive af2 {α β γ δ ε ζ η θ U κ:Type} (p:α->β->γ->δ->ε->ζ->η->θ->U->κ->Prop):Prop|mk (a:α) (b:β) (c:γ) (d:δ) (e:ε) (f:ζ) (g:η) (h:θ) (i:U) (j:κ) (h:p a b c d e f g h i j):af2 p
inductive W8 {α β:Type} (p1 p2 p3 p4:α->β->Prop):Prop|mk (a:α) (b:β) (h1:p1 a b) (h2:p2 a b) (h3:p3 a b) (h4:p4 a b):W8 p1 p2 p3 p4
@[elab_as_elim] theorem jm  {β:Sort v} {u v:β} {m:β->Prop} (h:p/\u=v) (k:p->m v):m u:=by
 obtain⟨t,rfl⟩:=h;exact k t
def gB{α:Type}{v:α}{P:Prop}(h:none=some v):P:=nomatch h
def iC{P:Prop}(h:false=true):P:=nomatch h
section
variable {s:Shared}
def wiT[Decidable c]{x y:Sem α}{Q:α->Shared->Prop}(hc:c)(h:wpAny M A x Q E s):wpAny M A (if c then x else y) Q E s:=by rw[if_pos hc];exact h
def VJ[Decidable c]{x y:Sem α}{Q:α->Shared->Prop}(hc:¬ c)(h:wpAny M A y Q E s):wpAny M A (if c then x else y) Q E s:=by rw[if_neg hc];exact h
abbrev byText(w:World):Prop:=w.params.followText "set-order"=true
structure rZ (prog:Program) (w:World) (h:Heap) (a:Addr) (S:Str->Bool) (n:Nat):Prop where
 set:h.SetOf (PySem.strKind prog w) a S n
 tab:VD λo es ep t=>h.get? a=some o/\o.data=.set es ep t/\(t.led=true\/byText w)/\(es.size=0\/t.plain=false)/\(es.size<=1->t.dummies.size=0/\7<=t.mask)
set_option tactic.hygienic true in
theorem zP(t:SetTable)(es:Array (Int×Value))(n:Nat):(relayAll t es n).2.1.plain=true->t.plain=true:=by
 unfold relayAll
 split
 rename_i b a e;dsimp only
 split
 intro h;unfold SetTable.relaid SetTable.laid at e;simp only[Option.bind_eq_bind,Option.bind_eq_some_iff,Option.pure_def,Option.some.injEq,Prod.mk.injEq]at e;obtain⟨_,_,rfl,_⟩:=e;exact h
 exact λh=>absurd h ()
 exact λh=>absurd h ()
set_option tactic.hygienic true in
def HY(t:SetTable)(es:Array (Int×Value))(n:Nat):(relayAll t es n).2.1.led=t.led:=by
 unfold relayAll
 split
 rename_i b a e;dsimp only
 split
 unfold SetTable.relaid SetTable.laid at e;simp only[Option.bind_eq_bind,Option.bind_eq_some_iff,Option.pure_def,Option.some.injEq,Prod.mk.injEq]at e;obtain⟨_,_,rfl,_⟩:=e;rfl
 rfl
 rfl
def Dn(t:SetTable)(es:Array (Int×Value))(h:Int)(x:Value):(layNew t es h x).2.1.led=t.led:=by
 unfold layNew
 split
 dsimp only[SetTable.orStandIn]
 split <;> rfl
 rfl
theorem yg(t:SetTable)(h:Int)(x:Value)(hd:t.dummies.size=0)(a:7<=t.mask):(layNew t #[] h x).2.1.dummies.size=0/\7<=(layNew t #[] h x).2.1.mask:=by
 obtain⟨l,e⟩:∃l,t.dummies=⟨l⟩:=⟨t.dummies.toList,by simp⟩;have hl:l=[]:=by rw[e]at hd;simpa using hd
 unfold layNew
 split
 dsimp only[SetTable.orStandIn]
 split
 simp only[SetTable.put]
 split <;> simp_all [SetTable.eraseAt]
 simp[SetTable.standIn,SetTable.insertAt]
 simp[SetTable.standIn]
set_option tactic.hygienic true in
theorem Bx{g:Bool->Sem Unit}(V:∀(b:Bool) (k:Shared) (Q':Unit->Shared->Prop),Q' Unit.unit k->wpAny (model prog w) A (g b) Q' E k){a:Addr} {o:Obj} {es:Array (Int×Value)}  {t:SetTable} (ho:s.heap.get? a=some o) (F:o.ExactSet) (hd:o.data=.set es ep t){c:Array (Int×Value)} {t2:SetTable}  (l:ElemsOf (PySem.strKind prog w) c.toList) (i:∀r,S' r=true↔∃e∈c.toList,(PySem.strKind prog w).is r e.2=true)(B:c.size<scanBound) (G:t2.fits c.size=true) (p:t2.plain=false) (C:t2.led=true\/byText w) (H:c.size<=1->t2.dummies.size=0/\7<=t2.mask) {f:Bool} {R:Option Bool->Shared->Prop}(h:∀h',Heap.SameBut a s.heap h'->rZ prog w h' a S' c.size->R (some true) {s with heap:=h'}) :
  wpAny (model prog w) A (do
    storeSet a c t2
    if(!f&&t2.tooFull)=true then do
      g (relayAll t2 c (SetTable.grown c.size)).2.2
      storeSet a (relayAll t2 c (SetTable.grown c.size)).1 (relayAll t2 c (SetTable.grown c.size)).2.1
      pure (some true)
     else pure (some true)) R E s:=by
 refine aj (wpAny_storeSet_of ho hd ?_ ());obtain⟨y,N⟩:=SetOf_store ho F hd l i B G;have m:=Heap.SameBut.update s.heap a (Obj.putSet c t2)
 split
 rename_i d;have h1:¬ c.size<=1:=λv=>by
  obtain⟨Z,q2⟩:=H v;simp only[SetTable.fits]at G;obtain⟨_,d⟩:=aZ d;have d:t2.fill*5>=t2.mask*3:=by simpa [SetTable.tooFull]using d
  unfold SetTable.fill at d;lia
 have hp:=relayAll_perm t2 c (SetTable.grown c.size);have n:=relayAll_fits t2 c (SetTable.grown c.size);have u:=zP t2 c (SetTable.grown c.size);have x:=HY t2 c (SetTable.grown c.size);generalize Q:relayAll t2 c (SetTable.grown c.size)=X at hp n u x ⊢;obtain⟨j,S,M⟩:=X;have I:=l.perm hp;have hsz:j.size=c.size:=by rw[<- bQ,hp.length_eq,bQ]
 have K:j.size<scanBound:=by rw[hsz];exact B
 refine aj (V _ _ _ (aj (wpAny_storeSet_of y rfl ?_ ())));obtain⟨P,D⟩:=SetOf_store y F rfl I (λr=>(i r).trans ⟨λ⟨e,L,q⟩=>⟨e,hp.mem_iff.mpr L,q⟩,λ⟨e,L,q⟩=>⟨e,hp.mem_iff.mp L,q⟩⟩) K n;rw[hsz]at D;refine ak (h _ (m.trans (Heap.SameBut.update _ a _)) ⟨D,_,_,_,_,P,rfl,by rw[x];exact C,.inr ?_,λv=>absurd (hsz▸v) h1⟩);cases hq:S.plain with
 |false=>rfl
 |true=>lia
 exact ak (h _ m ⟨N,_,_,_,_,y,rfl,C,.inr p,H⟩)
set_option tactic.hygienic true in
theorem Rk{a:Addr}{n:Nat}{k:Str}{u:Tok}{Q:Bool->Shared->Prop}(hX:rZ prog w s.heap a S n)(G:n+1<scanBound)(h:∀h',Heap.SameBut a s.heap h'->rZ prog w h' a (λp=>S p||decide (p=k)) (if S k then n else n+1)->Q (!S k) {s with heap:=h'}) :
  wpAny (model prog w) A (setAddHashed a (.str k u) ((PySem.strKind prog w).hash k)) Q E s:=by
 have v:(PySem.strKind prog w).is k (.str k u)=true:=strKind_is _ _ _ _;have I:(Value.str k u).scannable=true:=rfl;obtain⟨⟨o,es,ep,t,ho,H,hd,z,i,hb,hf,Z⟩,o',es',ep',t',R,N,hl,hp,P⟩:=hX;rw[ho]at R;cases R
 rw[hd]at N;cases N
 have hb1:es.size+1<scanBound:=by rw[Z];exact G
 refine ao (aj (wpAny_setState_of ho hd hf ?_));dsimp only;rw[byScan_of I hb z];refine aj ?_;refine aj (wpAny_rule ?_);refine aj (wpAny_setScan_of v ho hd hf z ?_);cases hr:List.findIdx? _ es.toList with
 |some j=>
  dsimp only;obtain⟨hj,X,_⟩:=List.findIdx?_eq_some_iff_getElem.mp hr;have r:=(i k).mpr ⟨es.toList[j],List.getElem_mem hj,X⟩;refine ak (ak ?_);have e:s={s with heap:=s.heap}:=by cases s;rfl
  have:=h s.heap (Heap.SameBut.refl a s.heap) ⟨⟨o,es,ep,t,ho,H,hd,z,λp=>by
   rw[Bool.or_eq_true,decide_eq_true_eq,<- i p];exact⟨λhk=>hk.elim id (λe=>e▸r),.inl⟩,hb,hf,by rw[r];exact Z⟩,o,es,ep,t,ho,hd,hl,hp,P⟩
  rw[r]at this;rw[e];exact this
 |none=>
  have r:S k=false:=by
   cases hk:S k with
   |false=>rfl
   |true=>obtain⟨e,he,hp⟩:=(i k).mp hk;have:=List.findIdx?_eq_none_iff.mp hr e he;rw[hp]at this;exact Bool.noConfusion this
  have hgw:∀(b:Bool) {s₁:Shared} {Q':Unit->Shared->Prop},Q' Unit.unit s₁->wpAny (model prog w) A (match b with|true=>rule "set.scan.the-table-gave-way"|false=>pure Unit.unit) Q' E s₁:=
   λb s₁ Q' C=>by cases b <;> first|exact ak C|exact wpAny_rule C
  have c:=layNew_perm t es ((PySem.strKind prog w).hash k) (.str k u);have f:=layNew_fits t es ((PySem.strKind prog w).hash k) (.str k u)
  have d:(layNew t es ((PySem.strKind prog w).hash k) (.str k u)).1.size<=1->(layNew t es ((PySem.strKind prog w).hash k) (.str k u)).2.1.dummies.size=0/\7<=(layNew t es _ (.str k u)).2.1.mask:=λhle=>by
   have hz:es.size=0:=by
    have:=c.length_eq;simp at this;lia
   obtain⟨l,e⟩:∃l,es=⟨l⟩:=⟨es.toList,by simp⟩;have hl:l=[]:=by rw[e]at hz;simpa using hz
   subst hl;subst e;obtain⟨q1,q2⟩:=P (by simp);exact yg t _ _ q1 q2
  have g:=Dn t es ((PySem.strKind prog w).hash k) (.str k u);generalize hL:layNew t es _ (.str k u)=L at c f g d ⊢;obtain⟨x,t1,K,gave⟩:=L;rw[Array.toList_push]at c;have F:=(z.push v I).perm c;have q:=mem_push_iff v i c;have D:x.size<scanBound:=by rw[<- bQ,c.length_eq];simpa using hb1
  refine aj (hgw _ ?_);have M:x.size=n+1:=by rw[<- bQ,c.length_eq,aC,bQ,Z];rfl
  have B:∀h',Heap.SameBut a s.heap h'->rZ prog w h' a (λp=>S p||decide (p=k)) x.size->Q true {s with heap:=h'}:=by
   intro h' y m;have:=h h' y;rw[r]at this;rw[M]at m;exact this m
  split
  refine aj ?_;refine ak ?_;refine Bx ?_ ho H hd F q D ?_ ?_ ?_ ?_ ?_
  lia
  lia
  rfl
  lia
  exact d
  intro h' y m;exact ak (B h' y m)
  rename_i V;refine Bx ?_ ho H hd F q D f (by simpa using V) (by rw[g];exact hl) d ?_
  lia
  intro h' y m;exact ak (B h' y m)
theorem R8(h:∀h':Heap,(∀b o,s.heap.get? b=some o->h'.get? b=some o)->rZ prog w h' s.heap.objs.size (λU=>false) 0->h'.objs.size=s.heap.objs.size+1->Q (.ref s.heap.objs.size) {s with heap:=h'}) :
  wpAny (model prog w) A (newSet (.type "set")) Q E s:=by
 refine aj (aj (wpAny_askSetting (ak ?_)));refine aj (wpAny_alloc (ak (h _ (λU U e=>aq _ e) ⟨⟨_,#[],0,_,bR _ rfl,⟨rfl,rfl,rfl⟩,rfl,λe a=>by simp at a,λk=>by simp,(),by rfl,rfl⟩,
  _,_,_,_,bR _ rfl,rfl,?_,.inl rfl,λU=>⟨rfl,bT 7⟩⟩ (by rw[bU]))))
 cases hb:w.params.followText "set-order" with
 |true=>lia
 |false=>left;show(!_)=true;simp[SetTable.fresh,model,hb]
end
end
def jH:Slot "set_iterator" "__next__" "set_iterator.__next__":=
 .of (owner:="set_iterator") (n:="__next__") rfl rfl rfl rfl
  () rfl
def rW(a:Value):argsOk "set_iterator.__next__" ⟨[a],[]⟩:=by rfl
def uT:entryFor table "set.__iter__"=some Builtin.«frozenset.__iter__»:=
 entryFor_alias (id':="frozenset.__iter__") rfl rfl (by decide+kernel) rfl
def wX{src:Source}(a:n≠0)(h:∀i d,i<n->Q i {s with drawn:=d}):wpAny M A (choose src n) Q E s:=by
 intro b p hΓ;show Sem.wp M b (.choose src n .pure) _ _ p s;exact⟨a,by rw[Sem.wp_pure];exact h _ _ (Nat.mod_lt _ (Nat.pos_of_ne_zero a))⟩
def oO{α:Type}(l:List α):∀(i:Nat) (x:α) (_:l[i]?=some x),(x::l.eraseIdx i).Perm l:=by
 induction l with
 |nil=>exact λi x h=>gB h
 |cons y r ih=>
  intro i x h;cases i with
  |zero=>exact bh h▸.refl _
  |succ i=>exact(List.Perm.swap _ _ _).trans ((ih i x h).cons y)
theorem rP(n:Nat):∀(xs:List α) {s:Shared} {Q:List α->Shared->Prop},xs.length=n->(∀ys d,ys.Perm xs->Q ys {s with drawn:=d})->wpAny M A (drawOrder n xs) Q E s:=by
 induction n with
 |zero=>
  intro xs s Q hl h;obtain rfl:=List.length_eq_zero_iff.mp hl;exact ak (h [] s.drawn ())
 |succ n ih=>
  intro xs s Q hl h;cases xs with
  |nil=>lia
  |cons x xs=>
   refine aj (wX (Nat.succ_ne_zero xs.length) λi d hi=>?_);have b:=bk hi;rw[b];exact aj (ih _ (by rw[List.length_eraseIdx_of_lt hi,hl];rfl) λys d' a=>ak (h _ d' ((a.cons _).trans (oO _ i _ b))))
theorem RM(next:Nat->Nat)(f:Nat):∀(k:Nat) (left:List α) (out:Array α),left.length=f->(pickOrder.go next f k left out).toList.Perm (out.toList++left):=by
 induction f with
 |zero=>
  intro k left out hl;obtain rfl:=List.length_eq_zero_iff.mp hl;rw[aX];exact .refl _
 |succ f ih=>
  intro k left out hl;have hi:next k % left.length<left.length:=Nat.mod_lt _ (by rw[hl];exact Nat.succ_pos f);show(match left[next k % left.length]? with|some x=>pickOrder.go next f _ _ _|none=>out).toList.Perm _;rw[bk hi];refine(ih _ _ _ (by rw[List.length_eraseIdx_of_lt hi,hl];rfl)).trans ?_;rw[Array.toList_push,aQ];exact List.Perm.append_left _ (oO left _ _ (bk hi))
def Ib(next:Nat->Nat)(xs:Array α):(pickOrder next xs).toList.Perm xs.toList:=RM next xs.size 0 xs.toList #[] rfl
section
variable {s:Shared}
def vg(w:World)(h:Heap)(it a:Addr)(es:Array (Int×Value))(ep:Nat)(t:SetTable)(wk:List Value)(i:Nat):Prop:=
 ∃first,h.get? it=some {cls:=.type "set_iterator",data:=.fields #[first,rawInt i,.ref a,rawInt es.size,rawInt ep]} /\
  ((byText w/\(∃z:Int,first=rawInt z)/\wk=(pickOrder (w.params.setOrder a ep) es).toList.map (·.2)) \/
  (¬ byText w/\W6 λ(b:Addr) (ps:List Nat) (k:Nat)=>first=.ref b/\b≠it/\h.get? b=some {cls:=.type "tuple",data:=.seq (ps.map λj:Nat=>rawInt j).toArray k}/\wk=ps.map (λj=>(es.getD j (0,.none)).2)/\∀j∈ps,j<es.size) \/
  (¬ byText w/\es.size<=1/\t.led=true/\wk=es.toList.map (·.2)/\∃z:Nat,first=rawInt z/\SetTable.below t.place z=i))
def wQ:SetTable.below #[p] j=if p<j then 1 else 0:=by kernel_rfl
def Cz{t:SetTable}(ho:s.heap.get? a=some o)(hd:o.data=.set es ep t)(hf:t.fits es.size=true)(h:Q (!w.params.followText "set-order"&&(!t.plain&&decide (es.size>1))) s):wpAny (model prog w) A (setDrawn a) Q E s:=aj (wpAny_setState_of ho hd hf (aj (aj (wpAny_askSetting (ak (ak h))))))
end
section
variable {s:Shared} {a:Addr} {o:Obj} {es:Array (Int×Value)} {t:SetTable}
structure su (h:Heap) (a:Addr) (es:Array (Int×Value)) (ep:Nat) (t:SetTable):Prop where
 ob:∃o,h.get? a=some o/\o.cls=.type "set"/\o.data=.set es ep t
 fits:t.fits es.size=true
def su.at'(x:su h a es ep t)(e:∀o,h.get? a=some o->h'.get? a=some o):su h' a es ep t:=
 by obtain⟨⟨o,c,b⟩,f⟩:=x;exact⟨⟨o,e o c,b⟩,f⟩
theorem xM(X:su s.heap a es ep t)(hl:t.led=true\/byText w)(hp:es.size=0\/t.plain=false)(hb:es.size<scanBound)(L:∀it wk s',wk.Perm (es.toList.map (·.2))->(∀b o,s.heap.get? b=some o->s'.heap.get? b=some o)->s.heap.objs.size<=it->vg w s'.heap it a es ep t wk 0->s'.os=s.os->s'.gens=s.gens->Q (.ref it) s'):wpAny (model prog w) A (pyIter (.ref a)) Q E s:=by
 obtain⟨⟨o,ho,hc,hd⟩,hf⟩:=id X;have B:s.TypeIs (.ref a) "set":=⟨o,ho,hc⟩;refine wpAny_pyIter_slot B F.slot_set_iter (wpAny_call_entry F.slot_set_iter B uT ?_ (F.args_set_iter_1 _));unfold Builtin.«frozenset.__iter__» Builtin.Frozenset.slot0 slotArgs;simp only[List.isEmpty_nil,Bool.not_true,Bool.false_eq_true,↓reduceIte,bind_assoc,List.length_nil,bne_self_eq_false];refine aj (m:=Builtin.Frozenset.addrOf _) (ak ?_);unfold Builtin.Frozenset.sizeOf;refine aj (aj (wpAny_setEntries_of ho hd hf (ak ?_)));have fin:∀(first:Value) (s1:Shared),(∀b o,s.heap.get? b=some o->s1.heap.get? b=some o)->s.heap.objs.size<=s1.heap.objs.size->s1.os=s.os->s1.gens=s.gens->(∀h' it,(∀b o,s1.heap.get? b=some o->h'.get? b=some o)->h'.get? it=some {cls:=.type "set_iterator",data:=.fields #[first,rawInt (0:Nat),.ref a,rawInt es.size,rawInt ep]}->it=s1.heap.objs.size->∃wk,wk.Perm (es.toList.map (·.2))/\vg w h' it a es ep t wk 0) ->
   wpAny (model prog w) A.in1 (do let e <- setEpoch a;let it <- newFields "set_iterator" [first,rawInt 0,.ref a,rawInt es.size,rawInt e];ret it) (λfin s'=>∃r,fin=.done (.ret r)/\∃k I,s'.TypeIs r k/\typeLookup (.type k) "__next__"=pure (some I)/\Q r s') E s1:=λfirst s1 hk hz h1 y C=>by
  obtain⟨⟨o1,x,K,q⟩,z⟩:=X.at' (λo e=>hk a o e);refine aj ?_;unfold setEpoch;refine aj (wpAny_setState_of x q z (ak ?_));refine aj ?_;unfold newFields;refine wpAny_newObj_type ?_ (by size_fits);obtain⟨wk,hp,hi⟩:=C _ s1.heap.objs.size (λb o e=>aq _ e) (bR _ rfl) rfl;exact ak ⟨_,rfl,"set_iterator",_,⟨_,bR _ rfl,rfl⟩,jH.lookup,L _ wk _ hp (λb o e=>aq _ (hk b o e)) hz hi h1 y⟩
 have D:scanBound=4096:=rfl;refine aj (m:=setDrawn a) (Cz ho hd hf ?_);by_cases c:byText w
 rw[show w.params.followText "set-order"=true from c];exact fin (rawInt 0) s (λU U e=>e) (bT _) rfl rfl λh' it hk hi U=>⟨_,(Ib _ _).map _,rawInt 0,hi,.inl ⟨c,⟨0,rfl⟩,rfl⟩⟩
 have v:w.params.followText "set-order"=false:=by simpa [byText]using c
 rw[v];have h:t.led=true:=hl.resolve_right c;by_cases h1:es.size>1
 have g:t.plain=false:=hp.resolve_left ();simp only[g,h1,decide_true,Bool.not_false,Bool.and_self,if_true];refine aj (rP es.size (List.range es.size) (by simp) λys d f=>?_);have n:∀j∈ys,j<es.size:=λj G=>by simpa using f.mem_iff.mp G
 refine aj (wpAny_newTuple ?_ (by rw[aB,f.length_eq,List.length_range,sizeLine_eq];lia));refine fin _ _ (λU U e=>aq _ e) (by show _<=(s.heap.push _).objs.size;rw[bU];lia) rfl rfl λh' it hk hi u=>⟨ys.map (λj=>(es.getD j (0,.none)).2),?_,.ref s.heap.objs.size,hi,.inr (.inl ⟨c,s.heap.objs.size,ys,0,rfl,?_,?_,rfl,n⟩)⟩
 refine(f.map _).trans ?_;have e:(List.range es.size).map (λj=>(es.getD j (0,.none)).2)=es.toList.map (·.2):=by
  refine List.ext_getElem (by simp) λi h1 y=>?_;simp at h1 y;simp[h1]
 rw[e]
 rw[u];show _≠(s.heap.push _).objs.size;rw[bU];lia
 exact hk _ _ (bR _ rfl)
 have H:(!t.plain&&decide (es.size>1))=false:=by simp[h1]
 simp only[H,Bool.not_false,Bool.true_and,Bool.false_eq_true,if_false];refine fin (rawInt 0) s (λU U e=>e) (bT _) rfl rfl λh' it hk hi U=>⟨_,.refl _,rawInt 0,hi,.inr (.inr ⟨c,(),h,rfl,0,rfl,?_⟩)⟩;simp only[SetTable.fits,Bool.and_eq_true,beq_iff_eq]at hf
 cases g:t.place with|mk l=>
 rw[g]at hf;simp at hf
 match l,hf with
 |[],_=>exact rfl
 |[p],_=>exact(wQ.trans rfl)
 |_::_::_,hf=>simp at hf;lia
end
section
variable {s:Shared} {a it:Addr} {es:Array (Int×Value)} {t:SetTable}
def tU(X:su s.heap a es ep t)(hb:byText w)(h:Q (pickOrder (w.params.setOrder a ep) es) s):wpAny (model prog w) A (setWalk a) Q E s:=by
 obtain⟨⟨o,ho,hc,hd⟩,hf⟩:=X;refine aj (wpAny_setState_of ho hd hf (aj (aj (wpAny_askSetting (ak ?_)))));rw[show(model prog w).w.params.followText "set-order"=true from hb];exact aj (wpAny_askSetting (ak h))
def tV(X:su s.heap a es ep t)(hb:byText w){g:Nat}(h:Q (((pickOrder (w.params.setOrder a ep) es)[g]?).map λe=>(e.2,slot)) s):wpAny (model prog w) A (setNext a slot g ep) Q E s:=by
 obtain⟨⟨o,ho,hc,hd⟩,hf⟩:=id X;refine aj (wpAny_setState_of ho hd hf (aj (aj (wpAny_askSetting (ak ?_)))));rw[show(model prog w).w.params.followText "set-order"=true from hb];simp;exact aj (tU X hb (ak h))
theorem tW(X:su s.heap a es ep t)(hb:¬ byText w)(h1:es.size<=1)(hl:t.led=true){g:Nat}(h:Q (match es[SetTable.below t.place slot]?,t.place[SetTable.below t.place slot]? with|some (_,x),some j=>some (x,j+1)|_,_=>none) s):wpAny (model prog w) A (setNext a slot g ep) Q E s:=by
 obtain⟨⟨o,ho,hc,hd⟩,hf⟩:=id X
 refine aj (wpAny_setState_of ho hd hf ?_);refine aj ?_;refine aj (wpAny_askSetting (ak ?_));refine VJ () ?_;refine VJ (λq=>Nat.not_lt.mpr h1 (of_decide_eq_true (aZ q).2)) (aj (VJ (λq=>?_) ?_))
 ·have:=(aZ q).1;rw[hl]at this;exact iC this
 exact ak (ak h)
theorem tL(b:A.handled=none)(hk:Heap.ExtBut it h0 s.heap)(c:∀e h',Heap.ExtBut it h0 h'->Shared.TypeIs {s with heap:=h'} e "StopIteration"->E e {s with heap:=h'}):wpAny (model prog w) A (do let e <- newExc (.type "StopIteration") [];raiseNew e:Sem α) R E s:=by
 refine aj (aj (m:=firstArgMember _ _) (bH (a:=Value.none) rfl ?_));refine wpAny_newObj_type (aj (wpAny_handled ?_)) ();rw[b];refine aj (ak (wpAny_throw (c _ _ ((hk.push _).push _) ?_)));exact⟨_,bR _ rfl,rfl⟩
def jB{h:Heap}{vs:Array Value}(k:Nat)(x:Value)(ho:h.get? it=some {cls:=c,data:=.fields vs}):
  (h.update it (Obj.mapFields (·.setIfInBounds k x))).get? it=some {cls:=c,data:=.fields (vs.setIfInBounds k x)}:=bV _ ho rfl
theorem Ii(B:A.handled=none)(X:su s.heap a es ep t)(I:vg w s.heap it a es ep t wk i)(h1:∀v h',wk[i]?=some v->Heap.SameBut it s.heap h'->vg w h' it a es ep t wk (i+1)->P (.done (.ret v)) {s with heap:=h'})
  (y:∀e h',wk[i]?=none->Heap.ExtBut it s.heap h'->Shared.TypeIs {s with heap:=h'} e "StopIteration"->E e {s with heap:=h'}):wpAny (model prog w) A (Builtin.«set_iterator.__next__» ⟨[.ref it],[]⟩) P E s:=by
 obtain⟨⟨o,ho,hc,hd⟩,hf⟩:=id X;obtain⟨first,hi,F⟩:=id I;unfold Builtin.«set_iterator.__next__»;refine aj (bH (a:=(.ref it,[])) rfl ?_);refine aj (wpAny_fieldsOf hi rfl ?_);refine aj (wpAny_setEntries_of ho hd hf ?_);refine VJ (by simp) ?_;have wr:∀{h':Heap} (k:Nat) (x:Value),Heap.SameBut it h' (h'.update it (Obj.mapFields (·.setIfInBounds k x))):=λk x=>Heap.SameBut.update ..;rcases F with⟨hb,⟨z,rfl⟩,c⟩|⟨hb,C,ps,k,rfl,r,n,c,q⟩|⟨hb,hsz,g,c,z,rfl,hz⟩
 ·refine aj (tV X hb ?_);rewrite [Int.toNat_natCast];cases hx:(pickOrder (w.params.setOrder a ep) es)[i]? with
  |none=>
   have d:wk[i]?=none:=by rw[c,bW,bL,hx];rfl
   exact aj (wpAny_setField hi rfl (by simp) (tL (it:=it) (h0:=s.heap) B (wr _ _).extBut λe h'=>y e h' d))
  |some e=>
   have d:wk[i]?=some e.2:=by rw[c,bW,bL,hx];rfl
   refine aj (wpAny_setField hi rfl (by simp) ?_);have b:=jB 0 (rawInt z.toNat) hi;refine aj (wpAny_setField b rfl (by simp) ?_);have h:=jB 1 (rawInt ((i:Int)+1)) b;exact ak (h1 _ _ d ((wr _ _).trans (wr _ _)) ⟨rawInt z.toNat,h,.inl ⟨hb,⟨_,rfl⟩,c⟩⟩)
 ·refine aj (aj (wpAny_load n (ak ?_)));show wpAny _ _ (match(List.map (λj:Nat=>rawInt j) ps).toArray[(i:Int).toNat]? with|some (.int place _)=>_|some _=>_|none=>_) _ _ _;rw[Int.toNat_natCast,List.getElem?_toArray,bW];cases hx:ps[i]? with
  |none=>
   have d:wk[i]?=none:=by rw[c,bW,hx];rfl
   refine aj (wpAny_setField hi rfl (by simp) ?_);have b:=jB 0 (rawInt 0) hi;exact aj (wpAny_setField b rfl (by simp) (tL (it:=it) (h0:=s.heap) B ((wr _ _).trans (wr _ _)).extBut λe h'=>y e h' d))
  |some j=>
   have D:j<es.size:=q j (bY hx);have d:wk[i]?=some es[j].2:=by rw[c,bW,hx];simp[D]
   refine aj (m:=setNextDrawn a j ep) ?_;unfold setNextDrawn;refine aj (wpAny_setState_of ho hd hf ?_);refine VJ (by simp) ?_;rw[bZ D];refine ak (aj (wpAny_setField hi rfl (by simp) ?_));have b:=jB 1 (rawInt ((i:Int)+1)) hi;exact ak (h1 _ _ d (wr _ _) ⟨.ref C,b,.inr (.inl ⟨hb,C,ps,k,rfl,r,(wr _ _).extBut _ _ r n,c,q⟩)⟩)
 ·refine aj (tW X hb hsz g ?_);rw[Int.toNat_natCast,hz];have u:t.place.size=es.size:=(aZ hf).1 |> beq_iff_eq.mp
  by_cases f:i<es.size
  ·have d:wk[i]?=some es[i].2:=by rw[c,bW,bL,bZ f];rfl
   rw[bZ f,bZ (u▸f:i<t.place.size)];refine aj (wpAny_setField hi rfl (by simp) ?_);have b:=jB 0 (rawInt ((t.place[i]+1:Nat):Int)) hi;refine aj (wpAny_setField b rfl (by simp) ?_);have h:=jB 1 (rawInt ((i:Int)+1)) b;refine ak (h1 _ _ d ((wr _ _).trans (wr _ _)) ⟨rawInt ((t.place[i]+1:Nat):Int),h,.inr (.inr ⟨hb,hsz,g,c,_,rfl,?_⟩)⟩)
   cases Nat.lt_one_iff.mp (aM f hsz)
   have key:∀(pl:Array Nat) (h0:0<pl.size),pl.size<=1->SetTable.below pl (pl[0]+1)=0+1:=λpl h0 h1=>by
    cases pl with|mk l=>
    match l,h0,h1 with
    |[p],_,_=>exact(wQ.trans (if_pos (aN _)))
    |_::_::_,_,h1=>simp at h1
   exact key t.place () ()
  ·have d:wk[i]?=none:=by rw[c,bW,bL,Array.getElem?_eq_none ()];rfl
   rw[Array.getElem?_eq_none (by lia:es.size<=i)];exact aj (wpAny_setField hi rfl (by simp) (tL (it:=it) (h0:=s.heap) B (wr _ _).extBut λe h'=>y e h' d))
theorem tX(f:A.handled=none)(X:su s.heap a es ep t)(I:vg w s.heap it a es ep t wk i)(h1:∀v h',wk[i]?=some v->Heap.SameBut it s.heap h'->vg w h' it a es ep t wk (i+1)->Q (some v) {s with heap:=h'})
  (g:∀h',wk[i]?=none->Heap.ExtBut it s.heap h'->Q none {s with heap:=h'}):wpAny (model prog w) A (pyNext (.ref it)) Q E s:=by
 obtain⟨first,hi,_⟩:=id I;have d:s.TypeIs (.ref it) "set_iterator":=⟨_,hi,rfl⟩;refine aj (wpAny_attempt (wpAny_callSpecial?_slot d jH
  (wpAny_call_entry jH d (entryFor_of_tree rfl) ?_ (rW _))))
 exact Ii f X I (λv h' a b c=>⟨_,rfl,ak (h1 v h' a b c)⟩) λe h' a b c=>aj (wpAny_isInstance c isSubtype_stop (wiT rfl (ak (g h' a b))))
end
section
variable {s:Shared} {a:Addr} {es:Array (Int×Value)} {t:SetTable}
def Kr(d:s.TypeIs (.ref a) "set")(h:Q false s):wpAny (model prog w) A (Builtin.List.listLengthHint (.ref a)) Q E s:=by
 refine aj (wpAny_specialOf d (by rfl) ?_);generalize hid:("set.__len__":String)=e
 subst hid;exact aj (wpAny_isInstance (b:=true) d rfl (aj (wpAny_typeOf d (ak h))))
theorem Kq{S:Addr}(K:A.handled=none)(l:S≠I)(B:a≠S)(E:I≠a)(L:wk.length<scanBound)(r:Value)(M:∀h' c,(∀b o,b≠S->b≠I->h₁.get? b=some o->h'.get? b=some o)->h'.get? S=some {cls:=.type "list",dict:=none,data:=.seq wk.toArray c,slots:=#[]}->R (.ok (.ret r)) {s with heap:=h'}) :
  ∀(k i:Nat) (h:Heap) (c:Nat),i+k=wk.length->vg w h I a es ep t wk i->su h a es ep t->(∀b o,b≠S->b≠I->h₁.get? b=some o->h.get? b=some o) ->
   h.get? S=some {cls:=.type "list",dict:=none,data:=.seq (wk.take i).toArray c,slots:=#[]} ->
   codeAny (model prog w) A (.builtin "list.extend.loop" ⟨[.ref S,.ref I,r],[]⟩) R {s with heap:=h}:=by
 intro k
 induction k with
 |zero=>
  intro i h c hk g hD d z;have u:i=wk.length:=hk;refine bJ PySem.F.entry_extend_loop ?_;refine aj (tX (A:=A.in1) K hD g (λv h' j U U=>?_) λh' U H=>?_)
  rw[List.getElem?_eq_none (Nat.le_of_eq u.symm)]at j;contradiction
  refine ak (M h' c (λb o h1 y e=>H b o y (d b o h1 y e)) (H S _ l ?_));rw[u,List.take_length]at z;exact z
 |succ k ih=>
  intro i h c hk g hD d z;have G:=hk▸Nat.lt_add_of_pos_right ();refine bJ PySem.F.entry_extend_loop ?_;refine aj (tX (A:=A.in1) K hD g (λv h' j m p=>?_) λh' j U=>?_)
  dsimp only;have f:=m.extBut S _ l z;have up:∀b o,b≠S->h'.get? b=some o->(h'.update S (Obj.mapSeq (·.push v))).get? b=some o:=λb o hb e=>(Heap.get?_update_other _ _ (Ne.symm hb)).trans e;have C:(wk.take i).toArray.push v=(wk.take (i+1)).toArray:=by
   rw[List.take_add_one,j];simp
  have x:(h'.update S (Obj.mapSeq (·.push v))).get? S=some {cls:=.type "list",dict:=none,data:=.seq ((wk.take i).toArray.push v) _,slots:=#[]}:=bV _ f rfl;rw[C]at x;refine aj ?_;refine wpAny_updateSeq f rfl (ak ⟨bI PySem.F.plain_extend_loop _,ih _ _ _ () ?_ ?_ (λb o h1 y e=>up b o h1 (m.extBut b o y (d b o h1 y e))) x⟩) ?_ ?_
  obtain⟨first,V,n⟩:=p;refine⟨first,up _ _ (Ne.symm l) V,?_⟩;rcases n with n|⟨P,Z,ps,k,q2,N,D,X⟩|n
  exact .inl n
  exact .inr (.inl ⟨P,Z,ps,k,q2,N,up _ _ () D,X⟩)
  exact .inr (.inr n)
  exact hD.at' λo e=>up a o B (m.extBut a o (Ne.symm E) e)
  exact cg▸aK (List.length_take_le' ..) (aK (cj L) ())
  rw[Array.size_push];exact cu (aK (List.length_take_le' ..) (aK (cj L) ()))
  rw[bk G]at j;contradiction
theorem zF(Q:A.handled=none)(X:su s.heap a es ep t)(hl:t.led=true\/byText w)(hp:es.size=0\/t.plain=false)(hb:es.size<scanBound)(h:∀wk s',wk.Perm (es.toList.map (·.2))->(∀b o,s.heap.get? b=some o->s'.heap.get? b=some o)->s'.os=s.os->s'.gens=s.gens->R wk s'):wpAny (model prog w) A (collect (.ref a)) R E s:=by
 have I:scanBound=4096:=rfl;have u:a<s.heap.objs.size:=by obtain⟨_,ho,_⟩:=X.ob;exact aV ho
 refine aj (wpAny_runValue (bJ entry_proto_collect' ?_));refine aj (wpAny_newObj_type ?_);refine ak ⟨bI PySem.F.plain_list_iadd _,bJ entry_list_iadd' ?_⟩;have n:(s.heap.push {cls:=.type "list",data:=.seq ([]:List Value).toArray}).get? s.heap.objs.size=some {cls:=.type "list",data:=.seq #[]}:=bR _ rfl;have v:su (s.heap.push {cls:=.type "list",data:=.seq ([]:List Value).toArray}) a es ep t:=X.at' λo e=>aq _ e;have Z:Shared.TypeIs {s with heap:=s.heap.push {cls:=.type "list",data:=.seq ([]:List Value).toArray}} (.ref a) "set":=by obtain⟨o,ho,hc,_⟩:=v.ob;exact⟨o,ho,hc⟩
 show wpAny _ A.in1 (Builtin.List.listExtendWith (.ref s.heap.objs.size) (.ref a) (.ref s.heap.objs.size)) _ _ _;refine aj (wpAny_typeOf Z ?_);have h1:Builtin.List.listSameRef (.ref s.heap.objs.size) (.ref a)=false:=decide_eq_false (Nat.ne_of_gt u);have N:(Value.type "set"==Value.type "list")=false:=by decide
 have V:(Value.type "set"==Value.type "tuple")=false:=by decide
 refine VJ (by rw[h1,N,V];exact Bool.false_ne_true) ?_;refine aj (xM v hl hp hb λit wk s' r hk g y x D=>?_);have j:=hk _ _ n;have hsz:(s.heap.push {cls:=.type "list",data:=.seq ([]:List Value).toArray}).objs.size=s.heap.objs.size+1:=by rw[bU]
 replace g:s.heap.objs.size+1<=it:=by rw[<- hsz];exact g
 have X2:=v.at' λo e=>hk a o e;have C:s'.TypeIs (.ref a) "set":=by obtain⟨o,ho,hc,_⟩:=X2.ob;exact⟨o,ho,hc⟩
 have S:wk.length=es.size:=by rw[r.length_eq];simp
 have l:∀{B:Result->Shared->Prop} (h0:Heap) (c:Nat),(∀b o,b≠s.heap.objs.size->s'.heap.get? b=some o->h0.get? b=some o)->h0.get? s.heap.objs.size=some {cls:=.type "list",dict:=none,data:=.seq #[] c,slots:=#[]} ->
   (∀h' c,(∀b o,s.heap.get? b=some o->h'.get? b=some o)->h'.get? s.heap.objs.size=some {cls:=.type "list",dict:=none,data:=.seq wk.toArray c,slots:=#[]}->B (.ok (.ret (.ref s.heap.objs.size))) {s' with heap:=h'}) ->
   codeAny (model prog w) A _ B {s' with heap:=h0}:=λ{B} h0 c hk0 hS0 hr=>by
  refine Kq (wk:=wk) Q (aY g) (aY u) (Nat.ne_of_gt (cA u g)) () _ (h₁:=s.heap) (λh' c' d f=>hr h' c' (λb o e=>d b o (aY (aV e)) (aY (cA (aV e) g)) e) f) wk.length 0 h0 c (Nat.zero_add _) ?_ (X2.at' λo e=>hk0 a o (aY u) e) (λb o hb U e=>hk0 b o hb (hk b o (aq _ e))) hS0;obtain⟨first,K,p⟩:=y;refine⟨first,hk0 _ _ (Nat.ne_of_gt g) K,?_⟩;rcases p with p|⟨H,M,ps,k,P,G,z,L⟩|p
  exact .inl p
  exact .inr (.inl ⟨H,M,ps,k,P,G,hk0 _ _ (λq=>by rw[q,j]at z;simp at z) z,L⟩)
  exact .inr (.inr p)
 have out:∀(h':Heap) (c:Nat),(∀b o,s.heap.get? b=some o->h'.get? b=some o)->h'.get? s.heap.objs.size=some {cls:=.type "list",dict:=none,data:=.seq wk.toArray c,slots:=#[]} ->
   wpAny (model prog w) A (do match(Value.ref s.heap.objs.size)with
    |.ref a=>match(<- load a).data with
     |.seq xs _=>pure xs.toList
     |_=>unsupported "internal:collect"
    |_=>unsupported "internal:collect") R E {s' with heap:=h'}:=λh' c d f=>by
  refine aj (wpAny_load f ?_);exact ak (h wk _ r d x D)
 refine aj (ao (Kr C ?_));refine wpAny_ite_split (λU=>?_) (λU=>ak ⟨bI PySem.F.plain_extend_loop _,?_⟩)
 refine aj (wpAny_rule ?_);refine aj ?_;refine aj (wpAny_updateSeq j rfl ?_);have i:=bV (Obj.mapSeq (·.push Value.none)) j rfl;refine wpAny_updateSeq (hz:=by seq_fits) i rfl ?_;have m:=bV (Obj.mapSeq (·.pop)) i rfl;refine ak ⟨bI PySem.F.plain_extend_loop _,l _ _ (λb o hb e=>?_) m λh' c d f=>out h' c d f⟩;exact(Heap.get?_update_other _ _ (Ne.symm hb)).trans ((Heap.get?_update_other _ _ (Ne.symm hb)).trans e)
 lia
end
noncomputable def iG(ks:List Str)(k:Str):List Str:=if ks.contains k then ks else k::ks
def fH(ks:List Str)(l:List Str):List Str:=l.foldl iG ks
section
variable {s:Shared} {a:Addr}
abbrev iH(prog:Program)(w:World)(h:Heap)(a:Addr)(ks:List Str):Prop:=rZ prog w h a (λk=>ks.contains k) ks.length/\ks.Nodup
def rZ.congr(x:rZ prog w h a S n)(c:∀k,S' k=S k)(b:n'=n):rZ prog w h a S' n':=by
 obtain rfl:S'=S:=funext c;subst b;exact x
def vf{k:Str}(h:ks.Nodup):(iG ks k).Nodup:=by
 unfold iG
 split
 exact h
 rename_i hc;exact List.nodup_cons.mpr ⟨λq=>hc (by simpa using q),h⟩
theorem rZ.iG{ks:List Str}{k:Str}(x:rZ prog w h a (λb=>ks.contains b||decide (b=k)) (if ks.contains k then ks.length else ks.length+1)):rZ prog w h a (λb=>(iG ks k).contains b) (iG ks k).length:=by
 unfold Internal.iG;cases hk:ks.contains k with
 |true=>
  rw[hk]at x;refine x.congr (λb=>?_) rfl;by_cases e:b=k
  lia
  simp[e]
 |false=>
  rw[hk]at x;refine x.congr (λb=>?_) rfl;simp[Bool.or_comm,List.contains_cons,eq_comm]
def KH{k:Str}{u:Tok}(d:iH prog w s.heap a ks)(c:ks.length+1<scanBound)(h:∀b h',Heap.SameBut a s.heap h'->iH prog w h' a (iG ks k)->Q b {s with heap:=h'}) :
  wpAny (model prog w) A (setAddHashed a (.str k u) ((PySem.strKind prog w).hash k)) Q E s:=
 Rk d.1 c λh' e x=>h _ h' e ⟨x.iG,vf d.2⟩
def pG{k:Str}{u:Tok}(d:iH prog w s.heap a ks)(c:ks.length+1<scanBound)(h:∀b h',Heap.SameBut a s.heap h'->iH prog w h' a (iG ks k)->Q b {s with heap:=h',toks:=s.toks+1}) :
  wpAny (model prog w) A (setAdd a (.str k u)) Q E s:=ao (aj ((PySem.strKind prog w).pyHash (strKind_is _ _ _ _) (KH d c h)))
def mj(ks l:List Str):(fH ks l).length<=ks.length+l.length:=by
 induction l generalizing ks with
 |nil=>simp[fH]
 |cons k l ih=>
  have:=ih (iG ks k);have a:(iG ks k).length<=ks.length+1:=by unfold iG;split <;> simp
  show(fH _ l).length<=_;simp;lia
def rM(ks l:List Str)(k:Str):fH ks (l++[k])=iG (fH ks l) k:=by simp[fH]
theorem Jg{k:Str}{u:Tok}(d:iH prog w s.heap a ks)(c:ks.length+1<scanBound)(h:∀h',Heap.SameBut a s.heap h'->iH prog w h' a (iG ks k)->Q .none {s with heap:=h',toks:=s.toks+1}) :
  wpAny (model prog w) A (call (.builtin "set.add") [.ref a,.str k u]) Q E s:=by
 refine wpAny_call_entry F.slot_set_add d.1.set.typeIs F.entry_set_add ?_ (F.args_set_add_2 _ _);unfold Builtin.«set.add» Builtin.Frozenset.oneOther;simp only[List.isEmpty_nil,bind_assoc];refine aj (ak (aj (ak ?_)))
 exact aj (pG d c λb h' f e=>(ak ⟨_,rfl,h h' f e⟩))
def jx{k:Str}(h:(PySem.strKind prog w).is k v=true):∃t,v=.str k t:=by
 cases v <;> simp[PySem.strKind,Value.isStrOf]at h;subst h;exact⟨_,rfl⟩
def Ie{knd:KeyKind prog w Str}(h:Pairs knd es kvs):∀{i:Nat} {e:DictEntry},es[i]?=some e->∃kv,kvs[i]?=some kv/\knd.is kv.1 e.key=true:=by
 induction h with
 |nil=>exact gB
 |cons a b c ih=>
  intro i e h
  induction i using Nat.casesOn with
  |zero=>exact⟨_,rfl,bh h▸a⟩
  |succ i=>exact ih h
theorem Hw{d:Addr}(hd:od.data=.dict zc dep)(l:d≠a)(I:KeysOf (PySem.strKind prog w) zc)(B:Pairs (PySem.strKind prog w) zc.toList kvs)(p:ks.length+kvs.length+1<scanBound) {k:Type} {f:Nat->k->Sem (ForInStep k)} {c:k} {Q:k->Shared->Prop}(hf:∀i (s:Shared) (R:ForInStep k->Shared->Prop),s.heap.get? d=some od->(∀e,zc[i]?=some e->wpAny (model prog w) A (setAddHashed a e.key e.hash) (λU s'=>s'.heap.get? d=some od/\R (.yield c) s') E s)->i<zc.size->wpAny (model prog w) A (f i c) R E s):∀(n i:Nat) (s:Shared),i+n=zc.size->s.heap.get? d=some od->iH prog w s.heap a (fH ks ((kvs.map (·.1)).take i)) ->
   (∀h',Heap.SameBut a s.heap h'->iH prog w h' a (fH ks (kvs.map (·.1)))->Q c {s with heap:=h'}) ->
   wpAny (model prog w) A (forIn (List.range' i n) c f) Q E s:=by
 have hlen:kvs.length=zc.size:=by rw[<- B.length];simp
 intro n
 induction n with
 |zero=>
  intro i s hi g m h;rw[(List.take_of_length_le (by simp;lia))]at m;exact ak (h s.heap (Heap.SameBut.refl _ _) m)
 |succ n ih=>
  intro i s hi g m h;rw[List.range'_succ,List.forIn_cons];refine aj (hf i s _ g (λe z=>?_) ());obtain⟨kv,x,j⟩:=Ie B (bL▸z);obtain⟨k2,y,G⟩:=I e (Array.mem_of_getElem? z);obtain rfl:=(PySem.strKind prog w).inj _ _ _ y j;obtain⟨u,F⟩:=jx j;rw[G,F];have hl:=mj ks ((kvs.map (·.1)).take i);have D:((kvs.map (·.1)).take i).length<=kvs.length:=by simp;lia
  refine KH m () λb h' r H=>⟨r.extBut d _ l g,(ih _ {s with heap:=h'} () (r.extBut d _ l g) ?_ λo v q=>h o (r.trans v) q)⟩;have C:(kvs.map (·.1)).take (i+1)=(kvs.map (·.1)).take i++[kv.1]:=by
   rw[List.take_add_one,bW,x];rfl
  rw[C,rM];exact H
end
section
variable {s:Shared} {a d:Addr} {kvs:List (Str×Value)} {ks:List Str}
theorem noRoom(p:iH prog w s.heap a [k0])(v:n<=3)(h:Q Unit.unit s):wpAny (model prog w) A (setRoomFor a n) Q E s:=by
 obtain⟨⟨⟨o,es,ep,t,ho,i,hd,g,f,hb,hf,d⟩,q,k,l,u,c,b,hl,hp,e⟩,_⟩:=p;rw[ho]at c;cases c
 rw[hd]at b;cases b
 refine aj (wpAny_setState_of ho hd hf ?_);have hz:es.size=1:=by lia
 obtain⟨j,r⟩:=e ();have m:t.roomFor n=none:=by
  unfold SetTable.roomFor SetTable.fill;simp only[SetTable.fits]at hf;rw[if_neg ()]
 exact m▸ak h
theorem JK(X:A.handled=none)(c:I≠a)(M:d≠a)(K:d≠I)(E:ks.length+kvs.length+1<scanBound)(Q:∀h' tk,(∀b o,b≠a->b≠I->h₁.get? b=some o->h'.get? b=some o)->iH prog w h' a (fH ks (kvs.map (·.1)))->R (.ok (.ret .none)) {s with heap:=h',toks:=tk}) :
  ∀(n i:Nat) (h:Heap) (tk:Nat),i+n=kvs.length->h.IsKeyIter I d i kvs.length ep->h.DictAt (PySem.strKind prog w) d kvs ep->(∀b o,b≠a->b≠I->h₁.get? b=some o->h.get? b=some o) ->
   iH prog w h a (fH ks ((kvs.map (·.1)).take i))->codeAny (model prog w) A (.builtin "set.update.loop" ⟨[.ref a,.ref I],[]⟩) R {s with heap:=h,toks:=tk}:=by
 intro n
 induction n with
 |zero=>
  intro i h tk hi g C hk B;refine bJ F.entry_set_update_loop ?_;refine aj (wpAny_pyNext_dict_end (A:=A.in1) X g C (List.getElem?_eq_none ()) λh' D=>?_);rw[(List.take_of_length_le (by simp;lia))]at B;refine ak (Q h' tk (λb o h1 l q=>D b o l (hk b o h1 l q)) ?_);obtain⟨⟨⟨o,es,ep,t,ho,r⟩,G,j,k,L,v,H⟩,nd⟩:=B;exact⟨⟨⟨o,es,ep,t,D a _ (Ne.symm c) ho,r⟩,G,j,k,L,D a _ (Ne.symm c) v,H⟩,nd⟩
 |succ n ih=>
  intro i h tk hi g C hk B;refine bJ F.entry_set_update_loop ?_;obtain⟨⟨kk,x⟩,P⟩:∃p,kvs[i]?=some p:=⟨kvs[i],bk ()⟩;refine aj (wpAny_pyNext_dict_item (A:=A.in1) g C P λkey h' y z f=>?_);obtain⟨u,rfl⟩:=jx y;have N:iH prog w h' a (fH ks ((kvs.map (·.1)).take i)):=by
   obtain⟨⟨⟨o,es,ep,t,ho,r⟩,G,j,k,L,v,H⟩,nd⟩:=B;exact⟨⟨⟨o,es,ep,t,f.extBut a _ (Ne.symm c) ho,r⟩,G,j,k,L,f.extBut a _ (Ne.symm c) v,H⟩,nd⟩
  have hl:=mj ks ((kvs.map (·.1)).take i);have V:((kvs.map (·.1)).take i).length<=kvs.length:=by simp;lia
  refine aj (ao (pG N () λb l m Z=>?_));refine ak ⟨bI F.plain_set_update_loop _,ih (i+1) l (tk+1) () (z.at λo e=>m.extBut I _ c e) (C.at' λo e=>m.extBut d _ M (f.extBut d _ K e)) (λb o h1 l e=>m.extBut b o h1 (f.extBut b o l (hk b o h1 l e))) ?_⟩;have S:(kvs.map (·.1)).take (i+1)=(kvs.map (·.1)).take i++[kk]:=by
   rw[List.take_add_one,bW,P];rfl
  rw[S,rM];exact Z
theorem Yi(S:A.handled=none)(k:iH prog w s.heap a [k0])(hD:s.heap.DictOf (PySem.strKind prog w) d kvs)(g:(d==sysModules)=false)(j:d≠a)(X:kvs.length<=3)(h:∀h' tk,(∀b o,b≠a->s.heap.get? b=some o->h'.get? b=some o)->iH prog w h' a (fH [k0] (kvs.map (·.1)))->Q Unit.unit {s with heap:=h',toks:=tk}):wpAny (model prog w) A (setDisplayStar a (.ref d)) Q E s:=by
 have K:scanBound=4096:=rfl;obtain⟨od,zc,dep,f,v,c,H,y,n⟩:=id hD;have z:=hD.typeIs;have hlen:kvs.length=zc.size:=by rw[<- y.length];simp
 refine aj (wpAny_isInstance z (by rfl) ?_);refine aj (wpAny_isInstance z (by rfl) ?_);refine aj (wpAny_askSetting ?_);cases hbt:(model prog w).w.params.followText "set-display-star-reads-storage" with
 |false=>
  refine aj (wpAny_typeOf z ?_);refine aj (wpAny_rule ?_);rw[g];refine aj (wpAny_dictEpoch f c ?_);refine aj (wpAny_dictEntries f c (aj (noRoom k () ?_)));simp only[Std.Legacy.Range.forIn_eq_forIn_range',Std.Legacy.Range.size];have I:(zc.size-0+1-1)/1=zc.size:=by lia
  rw[I];refine aj (Hw (ks:=[k0]) c j H y (by simp;lia) (λi s1 R q hb hi=>?_) zc.size 0 s () f () λh' M B=>?_)
  obtain⟨e,D⟩:∃e,zc[i]?=some e:=⟨zc[i],bZ hi⟩;refine aj (wpAny_dictEntries q c ?_);rw[D];refine aj (ao (aj (bG (hb e D) (λb s2 F=>ak (aj (wpAny_dictEpoch F.1 c ?_))) λU U x=>x)));simp;exact ak F.2
  exact ak (h h' s.toks (λb o hb e=>M.extBut b o hb e) B)
 |true=>
  have G:s.heap.DictAt _ d kvs dep:=⟨od,zc,f,v,c,H,y,n⟩;have has:a<s.heap.objs.size:=by obtain⟨_,_,_,_,ho,_⟩:=k.1.set;exact aV ho
  refine aj (wpAny_pyIter_dict g G ?_);refine aj (wpAny_runValue ?_);refine JK (d:=d) (a:=a) (ks:=[k0]) S (Nat.ne_of_gt has) j (aY (aV f)) (by simp;lia) (λh' tk hk B=>?_) kvs.length 0 _ s.toks () ⟨_,bR _ rfl,rfl,rfl⟩ (G.push _) (λb o U U e=>aq _ e) ?_
  exact ak (h h' tk (λb o hb e=>hk b o hb (aY (aV e)) e) B)
  have N:fH [k0] ((kvs.map (·.1)).take 0)=[k0]:=by rfl
  rw[N];obtain⟨⟨⟨o,es,ep,t,ho,r⟩,L,l,p,V,C,P⟩,nd⟩:=k;exact⟨⟨⟨o,es,ep,t,aq _ ho,r⟩,L,l,p,V,aq _ C,P⟩,nd⟩
def Yj{h₀:Heap}(hc:s.heap.CodeRec T.code q)(h:∀b,Q b s):wpAny (model prog w) A (inMainModule T) Q E s:=by
 obtain⟨c,o,vs,t,e,ho,hd,_⟩:=hc;unfold inMainModule
 rw[e]
 split
 ·exact ak (h _)
 ·refine aj (wpAny_fieldsOf ho hd ?_)
  split
  ·exact aj (wpAny_askSetting (ak (h _)))
  ·exact ak (h _)
noncomputable abbrev adR(prog:Program)(w:World):Bool:=!(model prog w).w.params.followText "set-order"
abbrev oU(prog:Program)(w:World):Obj:={cls:=.type "set",dict:=none,data:=.set #[] 0 (.fresh 0 0 (adR prog w))}
theorem vP{as:List Value}(a:checkBuiltinCall "set.__new__" ⟨.type "set"::as,[]⟩=pure Unit.unit)(h:Q₁ (.ref s.heap.objs.size) {s with heap:=s.heap.push (oU prog w)}):
  codeAny (model prog w) A (.call (.builtin "set.__new__") ⟨.type "set"::as,[]⟩) (wants Q₁ E) s:=by
 refine bK (aj (bH a (ak ⟨bI F.plain_set_new _,bJ F.entry_set_new ?_⟩)));have b:=sub_set_self;obtain⟨hp,g,d,tk,os⟩:=s
 wp_walk
 exact wpAny_askSetting (ak (aj (wpAny_alloc (ak (ak h)))))
set_option maxHeartbeats 1000000 in
set_option maxRecDepth 100000 in
theorem Pu{as:List Value}{Q:Value->Shared->Prop}(p:checkTypeCall "set" ⟨as,[]⟩=pure Unit.unit)(k:checkBuiltinCall "set.__new__" ⟨.type "set"::as,[]⟩=pure Unit.unit)(l:∀{n:Around} {a:Shared},n.handled=A.handled->a={s with heap:=s.heap.push (oU prog w)}->codeAny (model prog w) n (.call (.builtin "set.__init__") ⟨.ref s.heap.objs.size::as,[]⟩) (wants (λr d=>r=.none/\Q (.ref s.heap.objs.size) d) E) a):wpAny (model prog w) A (call (.type "set") as) Q E s:=by
 obtain⟨c,u,m⟩:=F.called_set.mro;have i:=F.called_set.made;have o:=F.called_set.sub;refine wpAny_call (bK ?_);show wpAny _ _ (callAny (.type "set") _) _ _ _;refine ak ⟨Code.quiet_builtin _ (by decide+kernel),bJ F.entry_type_call ?_⟩;rw[Around.under_plain (weight_type_call_type "set" as []) rfl];have h1:=F.called_set.notType;have v:=F.called_set.canCreate
 repeat (any_goals (first|assumption|wp_step))
 refine codeAny_mono (vP k (E:=E) (Q₁:=λobj a=>obj=.ref s.heap.objs.size/\a={s with heap:=s.heap.push (oU prog w)}) ⟨rfl,rfl⟩) λr a j=>?_;cases r with
 |error e=>exact j
 |ok fl=>
  cases fl with
  |ret obj=>
   obtain⟨rfl,g⟩:=j;have y:a.TypeIs (.ref s.heap.objs.size) "set":=g▸⟨_,bR _ rfl,rfl⟩;have t:=F.called_set.init.lookup;have q:=F.called_set.init.bind (.ref s.heap.objs.size)
   repeat (any_goals (first|assumption|wp_step))
   refine codeAny_mono (l rfl g) λh d b=>?_;cases h with
    |error e=>exact b
    |ok f=>
     cases f with
     |ret r=>
      obtain⟨rfl,x⟩:=b
      repeat (any_goals (first|assumption|wp_step))
     |_=>exact b.elim
  |_=>exact j.elim
theorem Vm(h:Q (.ref s.heap.objs.size) {s with heap:=s.heap.push (oU prog w)}):wpAny (model prog w) A (call (.type "set") []) Q E s:=
 Pu F.typeCall_set_0 F.newCall_set_0 λ{A' s₁} _ e=>by
  subst e;have a:(s.heap.push _).get? s.heap.objs.size=some (oU prog w):=bR _ rfl;have b:Shared.TypeIs {s with heap:=s.heap.push _} (.ref s.heap.objs.size) "set":=⟨_,a,rfl⟩;refine codeAny_call_builtin F.called_set.init.plain F.entry_set_init (check_set_init b ?_)
  wp_walk
  exact⟨rfl,h⟩
def iH.Z7(hl:led=true\/byText w)(e:h.get? a=some {cls:=.type "set",dict:=none,data:=.set #[] 0 (.fresh 0 0 led)}):iH prog w h a []:=
 ⟨⟨⟨_,#[],0,_,e,⟨rfl,rfl,rfl⟩,rfl,λe b=>by simp at b,λk=>by simp,(),by rfl,rfl⟩,_,_,_,_,e,rfl,hl,.inl rfl,λU=>⟨rfl,bT 7⟩⟩,.nil⟩
def iH.fresh(e:h.get? a=some (oU prog w)):iH prog w h a []:=
 iH.Z7 (by
  cases hb:w.params.followText "set-order" with
  |true=>exact .inr hb
  |false=>left;show(!w.params.followText "set-order")=true;rw[hb];rfl) e
theorem HS{t1 t2:Sem Value}(t:A.handled=none)(h1:∀{s':Shared} {Q:Value->Shared->Prop},(∀b o,s.heap.get? b=some o->s'.heap.get? b=some o)->s'.os=s.os->s'.gens=s.gens->(∀u,Q (.str k0 u) s')->wpAny (model prog w) A t1 Q E s')(p:∀{s':Shared} {Q:Value->Shared->Prop},(∀b o,s.heap.get? b=some o->s'.heap.get? b=some o)->s'.os=s.os->s'.gens=s.gens->Q (.ref d) s'->wpAny (model prog w) A t2 Q E s')(hD:s.heap.DictOf (PySem.strKind prog w) d kvs) (f:(d==sysModules)=false) (n:kvs.length<=3) (h:∀h' tk,(∀b o,s.heap.get? b=some o->h'.get? b=some o)->iH prog w h' s.heap.objs.size (fH [k0] (kvs.map (·.1)))->Q (.ref s.heap.objs.size) {s with heap:=h',toks:=tk}) :
  wpAny (model prog w) A (setDisplay .oneByOne b [(false,t1),(true,t2)]) Q E s:=by
 have l:d<s.heap.objs.size:=by obtain⟨_,_,_,ho,_⟩:=hD;exact aV ho
 unfold setDisplay;refine aj (R8 λh' hk x hz=>?_);dsimp only;have en:(if([(false,t1),(true,t2)]:List (Bool×Sem Value)).length>30 then 0 else(([(false,t1),(true,t2)]:List (Bool×Sem Value)).findIdx? (·.1)).getD ([(false,t1),(true,t2)]:List (Bool×Sem Value)).length)=1:=by simp[List.findIdx?_cons]
 rw[en];simp only[List.take_succ_cons,List.take_zero,cC,List.map_nil,List.drop_succ_cons,List.drop_zero];refine aj (ao ?_);refine aj ?_;refine aj (h1 hk rfl rfl λu=>(aj (ao (ak (ak ?_)))));refine aj (ao ?_);rw[List.forIn_cons];refine aj (aj (aj (pG (s:={s with heap:=h'}) (ks:=[]) ⟨x.congr (λU=>rfl) rfl,.nil⟩ () λb a k q=>ak ?_)));dsimp only;rw[List.forIn_nil];refine ak (ak ?_);rw[List.forIn_cons];have c:∀b o,s.heap.get? b=some o->a.get? b=some o:=λb o e=>k.extBut b o (aY (aV e)) (hk b o e);refine aj (aj (aj (m:=t2) (p (s':={s with heap:=a,toks:=s.toks+1}) c rfl rfl ?_)));simp only[if_true];have g:a.DictOf (PySem.strKind prog w) d kvs:=by obtain⟨o,es,ep,ho,r⟩:=hD;exact⟨o,es,ep,c _ _ ho,r⟩
 refine aj (ao (Yi (s:={s with heap:=a,toks:=s.toks+1}) t (k0:=k0) q g f (aY l) n λy tk i j=>ak ?_));dsimp only;rw[List.forIn_nil];exact ak (ak (ak (h y tk (λb o e=>i b o (aY (aV e)) (c b o e)) j)))
end
structure Pm where
 id:String
 obj:Bool
variable {tab:List (Str×Pm)}
noncomputable def Pm.jh:Pm:=⟨"list.append",true⟩
noncomputable def Pm.adW:Pm:=⟨"list.pop",false⟩
noncomputable def Pm.Wt:Pm:=⟨"list.sort",false⟩
noncomputable def Pm.Gu:Pm:=⟨"list.extend",false⟩
noncomputable def Pm.Mw:Pm:=⟨"list.index",false⟩
noncomputable def Pm.Pa:Pm:=⟨"dict.items",false⟩
noncomputable def Pm.aaF:Pm:=⟨"dict.get",false⟩
noncomputable def Pm.G8:Pm:=⟨"dict.update",false⟩
noncomputable def Pm.Yl:Pm:=⟨"set.add",false⟩
noncomputable def Pm.tG:Pm:=⟨"str.join",true⟩
noncomputable def Pm.J1:Pm:=⟨"str.strip",false⟩
noncomputable def Pm.J3:Pm:=⟨"str.split",false⟩
noncomputable def Pm.Fx:Pm:=⟨"str.rsplit",false⟩
noncomputable def Pm.QZ:Pm:=⟨"str.startswith",false⟩
noncomputable def Pm.abM:Pm:=⟨"str.endswith",false⟩
noncomputable def Pm.abL:Pm:=⟨"str.find",false⟩
noncomputable def Pm.J4:Pm:=⟨"str.replace",false⟩
structure Bf where
 ty:Bool
 nm:String
 ok:handedIn (bif ty then .type nm else .builtin nm)=true
noncomputable def Bf.val(b:Bf):Value:=bif b.ty then .type b.nm else .builtin b.nm
noncomputable def Bf.len:Bf:=⟨false,"len",by decide+kernel⟩
noncomputable def Bf.sum:Bf:=⟨false,"sum",by decide+kernel⟩
noncomputable def Bf.sorted:Bf:=⟨false,"sorted",by decide+kernel⟩
noncomputable def Bf.divmod:Bf:=⟨false,"divmod",by decide+kernel⟩
noncomputable def Bf.chr:Bf:=⟨false,"chr",by decide+kernel⟩
noncomputable def Bf.set:Bf:=⟨true,"set",by decide+kernel⟩
noncomputable def Bf.list:Bf:=⟨true,"list",by decide+kernel⟩
noncomputable def Bf.dict:Bf:=⟨true,"dict",by decide+kernel⟩
noncomputable def Bf.str:Bf:=⟨true,"str",by decide+kernel⟩
noncomputable def Bf.range:Bf:=⟨true,"range",by decide+kernel⟩
inductive V where
 |n
 |b (b:Bool)
 |i (i:Int)
 |s (s:Str)
 |t (xs:List V)
 |r (i:Nat)
 |f (a:Addr)
 |k (p:Pm) (x:V)
 |e (b:Bf)
 |m (f:Addr) (x:V)
 |w (i:Nat)
 |g (m:Nat)
variable {it v w2 m2:V} {kvs kx pm kw rows:List (Str×V)} {xs ys args lp zs rA yZ da d' p' n0:List V} {its:List V×Option Nat}
inductive dN where
 |l (xs:List V)
 |d (kvs:List (Str×V))
 |n (kvs:List (Str×V))
 |e (ks:List Str)
 |i (C:Addr) (d:Nat)
 |t (P:Addr) (q:Str)
variable {o o1 o2:dN}
structure Hp where
 f:Nat->dN
 n:Nat
variable {H H' H1 H3 H4:Hp}
noncomputable def Hp.alloc(H:Hp)(o:dN):Hp:=⟨λi=>if i=H.n then o else H.f i,H.n+1⟩
noncomputable def Hp.put(H:Hp)(i:Nat)(o:dN):Hp:=⟨λj=>if j=i then o else H.f j,H.n⟩
mutual
inductive Rep (n:Nat) (W:Nat->Addr) (h:Heap):Value->V->Prop
 |none:Rep n W h .none .n
 |bool (b:Bool):Rep n W h (.bool b) (.b b)
 |int (i:Int) (t:Tok):Rep n W h (.int i t) (.i i)
 |str (s:Str) (t:Tok):Rep n W h (.str s t) (.s s)
 |ref (i:Nat):i<n->Rep n W h (.ref (W i)) (.r i)
 |fn (a:Addr):Rep n W h (.ref a) (.f a)
 |tup {a:Addr} {vs:Array Value} {k:Nat} {xs:List V}:h.get? a=some {cls:=.type "tuple",data:=.seq vs k}->dR n W h vs.toList xs->Rep n W h (.ref a) (.t xs)
 |bm {a:Addr} {p:Pm} {v:Value} {x:V}:p.obj=true->h.get? a=some {cls:=.type "builtin_function_or_method",data:=.fields #[.builtin p.id,v]}->Rep n W h v x->Rep n W h (.ref a) (.k p x)
 |bf (b:Bf):Rep n W h b.val (.e b)
 |mt {a f:Addr} {v:Value} {x:V}:h.get? a=some {cls:=.type "method",data:=.fields #[.ref f,v]}->Rep n W h v x->Rep n W h (.ref a) (.m f x)
 |view {a:Addr} {i:Nat}:i<n->h.get? a=some {cls:=.type "dict_items",data:=.fields #[.ref (W i)]}->Rep n W h (.ref a) (.w i)
 |rng {a:Addr} {m:Nat} {t u v:Tok}:m<100000->h.get? a=some {cls:=.type "range",data:=.fields #[.int 0 t,.int m u,.int 1 v]}->Rep n W h (.ref a) (.g m)
inductive dR (n:Nat) (W:Nat->Addr) (h:Heap):List Value->List V->Prop
 |nil:dR n W h [] []
 |cons {v:Value} {x:V} {vs:List Value} {xs:List V}:Rep n W h v x->dR n W h vs xs->dR n W h (v::vs) (x::xs)
end
def BL(h:Heap)(cv:Value)(q:Str):Prop:=VD λc o vs t=>cv=.ref c/\h.get? c=some o/\o.cls=.type "code"/\o.data=.fields vs/\vs[1]?=some (.str q t)
def gH(prog:Program)(w:World)(n:Nat)(W:Nat->Addr)(h:Heap)(a:Addr):dN->Prop
 |.l xs=>Ex2 λvs k=>h.get? a=some {cls:=.type "list",data:=.seq vs k}/\dR n W h vs.toList xs
 |.d kvs=>∃ps:List (Str×Value),h.DictOf (strKind prog w) a ps/\ps.map (·.1)=kvs.map (·.1)/\dR n W h (ps.map (·.2)) (kvs.map (·.2))
 |.n kvs=>Ex2 λes k=>h.get? a=some {cls:=.type "dict",data:=.dict es k}/\StrKeys es/\es.size<=kvs.length/\(∀x v,kvs.lookup x=some v->∃u,nsFind es x=some u/\Rep n W h u v)/\∀x,kvs.lookup x=none->nsFind es x=none
 |.e ks=>iH prog w h a ks
 |.i C d=>d<n/\h.get? a=some {cls:=.ref C,dict:=some (W d),data:=.plain}
 |.t P q=>a=P/\∃ps,h.get? P=some (tabObj ps)/\TriplesOk ps.toList/\∀pos cv,codeAmong pos ps.toList=some cv->BL h cv q
structure Cx where
 prog:Program
 w:World
 g:Heap
 os:OsState
 K:Frag
 lam:List (Str×NameKind)->Option (Addr×Addr×Str)
variable {cx:Cx}
structure Inv (cx:Cx) (W:Nat->Addr) (H:Hp) (s:Shared):Prop where
 keep:∀b o,cx.g.get? b=some o->s.heap.get? b=some o
 os:s.os=cx.os
 bare:AllBare s.gens
 objs:∀i,i<H.n->gH cx.prog cx.w H.n W s.heap (W i) (H.f i)
 inj:∀i j,i<H.n->j<H.n->W i=W j->i=j
 low:∀i,i<H.n->cx.g.get? (W i)=none
 st:∃o,cx.g.get? cStatics=some o
 Dd:∀i,i<H.n->W i≠sysModules
def FW{h:Heap}{o:Obj}(e:h.get? cStatics=some o):h.objs.size≠sysModules:=λq=>by
 have:=aV e;rw[q]at this;exact absurd this ()
def Inv.Ij(I:Inv cx W H s):s.heap.objs.size≠sysModules:=by obtain⟨_,e⟩:=I.st;exact FW (I.keep _ _ e)
def Inv.neX(I:Inv cx W H s){h:Heap}(hk:∀a o,s.heap.get? a=some o->h.get? a=some o):h.objs.size≠sysModules:=by obtain⟨_,e⟩:=I.st;exact FW (hk _ _ (I.keep _ _ e))
structure dJ (cx:Cx) (W7:Addr->Prop) (W:Nat->Addr) (H:Hp) (s:Shared) (ρ':Nat->Addr) (H':Hp) (s':Shared):Prop where
 inv:Inv cx ρ' H' s'
 le:H.n<=H'.n
 rY:∀i,i<H.n->ρ' i=W i
 fresh:∀i,H.n<=i->i<H'.n->s.heap.get? (ρ' i)=none
 ext:∀a o,s.heap.get? a=some o->(∀i,i<H.n->W i≠a)->¬ W7 a->s'.heap.get? a=some o
 gx:∀(g:Nat) x,s.gens[g]?=some x->s'.gens[g]?=some x
abbrev fV:Addr->Prop:=λU=>False
noncomputable def nfB:Value->Bool
 |.type t=>!(["tuple","builtin_function_or_method","method","dict_items","code","range"].contains t)
 |_=>true
def nfD:nfB (.type "dict")=true:=by rfl
def nfT:nfB (.type "tuple")=false:=by rfl
inductive W4 (h:Heap) (a:Addr):Prop|mk (ob:Obj) (e:h.get? a=.some ob) (f:nfB ob.cls=true):W4 h a
def gH.some(x:gH p w n W h a o):W4 h a:=by
 cases o with
 |l xs=>obtain⟨vs,k,e,_⟩:=x;exact⟨_,e,(by rfl)⟩
 |d xs=>obtain⟨ps,⟨o,es,k,e,hc,_⟩,_⟩:=x;exact⟨_,e,hc.1.symm▸nfD⟩
 |n xs=>obtain⟨es,k,e,_⟩:=x;exact⟨_,e,nfD⟩
 |e xs=>obtain⟨⟨⟨o,es,k,t,e,hc,_⟩,_⟩,_⟩:=x;exact⟨_,e,hc.1.symm▸(by rfl)⟩
 |i C d=>exact⟨_,x.2,rfl⟩
 |t P q=>obtain⟨rfl,ps,e,_⟩:=x;exact⟨_,e,nfD⟩
def Inv.lt(I:Inv cx W H s)(hi:i<H.n):W i<s.heap.objs.size:=
 by obtain⟨_,e,_⟩:=(I.objs i hi).some;exact aV e
def Fz(o:Obj):Prop:=nfB o.cls=false/\((Ex2 λvs k=>o.data=.seq vs k)\/∃vs,o.data=.fields vs)
def Inv.m6(I:Inv cx W H s)(e:s.heap.get? a=some ob)(hc:Fz ob):∀i,i<H.n->W i≠a:=by
 rintro i hi rfl
 obtain⟨c,b,h⟩:=(I.objs i hi).some;rw[e]at b;obtain rfl:=bh b;rw[hc.1]at h;contradiction
structure Kp (n:Nat) (W:Nat->Addr) (h:Heap) (n':Nat) (ρ':Nat->Addr) (h':Heap):Prop where
 le:n<=n'
 rY:∀i,i<n->ρ' i=W i
 I9:∀a o,h.get? a=some o->Fz o->h'.get? a=some o
theorem Rep.mono(K:Kp n W h n' ρ' h'){v x}(r:Rep n W h v x):Rep n' ρ' h' v x:=
 Rep.rec (motive_2:=λvs xs U=>dR n' ρ' h' vs xs) .none .bool .int .str
  (λi hi=>K.rY i hi▸Rep.ref i (aM hi K.le)) .fn
  (λe U r=>.tup (K.I9 _ _ e ⟨nfT,.inl ⟨_,_,rfl⟩⟩) r)
  (λhp e U r=>.bm hp (K.I9 _ _ e ⟨(by rfl),.inr ⟨_,rfl⟩⟩) r) .bf
  (λe U r=>.mt (K.I9 _ _ e ⟨(by rfl),.inr ⟨_,rfl⟩⟩) r)
  (λhi e=>.view (aM hi K.le) ((K.rY _ hi)▸K.I9 _ _ e ⟨(by rfl),.inr ⟨_,rfl⟩⟩))
  (λc e=>.rng c (K.I9 _ _ e ⟨(by rfl),.inr ⟨_,rfl⟩⟩))
  .nil (λU U a b=>.cons a b) r
def dR.ind{m:∀vs xs,dR n W h vs xs->Prop}(h0:m [] [] .nil)(h1:∀{v x vs xs} (a:Rep n W h v x) (b:dR n W h vs xs),m vs xs b->m (v::vs) (x::xs) (.cons a b))(r:dR n W h vs xs):m vs xs r:=
 dR.rec (motive_1:=λU U U=>True) trivial (λU=>trivial) () () () () () () () () () () h0 (λa b U ih=>h1 a b ih) r
def dR.mono(K:Kp n W h n' ρ' h')(r:dR n W h vs xs):dR n' ρ' h' vs xs:=
 dR.ind (m:=λvs xs U=>dR n' ρ' h' vs xs) .nil (λa U ih=>.cons (a.mono K) ih) r
theorem gH.mono(K:Kp n W h n' ρ' h')(r:gH p w n W h a o)(e:h'.get? a=h.get? a):gH p w n' ρ' h' a o:=by
 cases o with
 |l xs=>obtain⟨vs,k,q,l⟩:=r;exact⟨vs,k,e.trans q,l.mono K⟩
 |d xs=>obtain⟨ps,⟨o,es,k,q,I⟩,y,l⟩:=r;exact⟨ps,⟨o,es,k,e.trans q,I⟩,y,l.mono K⟩
 |n xs=>
  obtain⟨es,k,q,h0,g,h1,B⟩:=r;exact⟨es,k,e.trans q,h0,g,λx v z=>(by obtain⟨u,a,b⟩:=h1 x v z;exact⟨u,a,b.mono K⟩),B⟩
 |e xs=>obtain⟨⟨⟨o,es,k,t,q,hc⟩,D,j,N,M,H,f⟩,l⟩:=r;exact⟨⟨⟨o,es,k,t,e.trans q,hc⟩,D,j,N,M,e.trans H,f⟩,l⟩
 |i C d=>exact⟨aM r.1 K.le,(K.rY _ r.1)▸e.trans r.2⟩
 |t P q=>
  obtain⟨rfl,ps,A,G,E⟩:=r;exact⟨rfl,ps,e.trans A,G,λpos cv z=>by obtain⟨c,o,vs,t,F,L,s,m⟩:=E pos cv z;exact⟨c,o,vs,t,F,K.I9 _ _ L ⟨s▸(by rfl),.inr ⟨_,m.1⟩⟩,s,m⟩⟩
def dJ.kp(I:Inv cx W H s)(S:dJ cx W7 W H s ρ' H' s')(b:∀a o,s.heap.get? a=some o->Fz o->¬ W7 a):Kp H.n W s.heap H'.n ρ' s'.heap:=⟨S.le,S.rY,λa o e hc=>S.ext a o e (I.m6 e hc) (b a o e hc)⟩
def dJ.refl(W7)(I:Inv cx W H s):dJ cx W7 W H s W H s:=
 ⟨I,bT _,λU U=>rfl,λi h1 a=>absurd a (Nat.not_lt.mpr h1),λU U e U U=>e,λU U e=>e⟩
def dJ.old(S:dJ cx W7 W H s ρ' H' s'){o:Obj}(e:s.heap.get? a=some o)(b:∀i,i<H.n->W i≠a):∀i,i<H'.n->ρ' i≠a:=λi hi q=>by
 by_cases h:i<H.n
 ·rw[S.rY i h]at q;exact b i h q
 ·have:=S.fresh i (Nat.le_of_not_lt h) hi;rw[q,e]at this;contradiction
theorem dJ.j5(S:dJ cx W7 W H s ρ' H' s')(T7:dJ cx W7 ρ' H' s' zj H'' s'')(k:∀i,H'.n<=i->i<H''.n->¬ W7 (zj i)):dJ cx W7 W H s zj H'' s'':=
 ⟨T7.inv,aK S.le T7.le,λi hi=>(T7.rY i (aM hi S.le)).trans (S.rY i hi),
 λi h1 c=>by
  by_cases h:i<H'.n
  ·exact(T7.rY i h)▸S.fresh i h1 h
  ·have hf:=T7.fresh i (Nat.le_of_not_lt h) c;cases e:s.heap.get? _ with
   |none=>rfl
   |some o=>
    by_cases b:∀j,j<H.n->W j≠zj i
    ·rw[S.ext _ o e b (k i (Nat.le_of_not_lt h) c)]at hf;contradiction
    ·exfalso
     refine b λj d q=>?_;have l:zj j=zj i:=by rw[T7.rY j (aM d S.le),S.rY j d,q]
     have:=T7.inv.inj j i (aM (aM d S.le) T7.le) c l;lia,
 λa o e b f=>T7.ext a o (S.ext a o e b f) (S.old e b) f,λg x e=>T7.gx g x (S.gx g x e)⟩
def dJ.trans(S:dJ cx fV W H s ρ' H' s')(T7:dJ cx fV ρ' H' s' zj H'' s''):dJ cx fV W H s zj H'' s'':=S.j5 T7 λU U U x=>x
def dJ.weaken(S:dJ cx W7 W H s ρ' H' s')(h:∀a,W7 a->W7' a):dJ cx W7' W H s ρ' H' s':=
 ⟨S.inv,S.le,S.rY,S.fresh,λa o e c b=>S.ext a o e c λx=>b (h a x),S.gx⟩
theorem dJ.grown(W7)(I:Inv cx W H s)(hk:∀a o,s.heap.get? a=some o->s'.heap.get? a=some o)(c:s'.os=s.os) (hb:s'.gens=s.gens):dJ cx W7 W H s W H s':=by
 refine⟨⟨λb o e=>hk b o (I.keep b o e),c.trans I.os,hb▸I.bare,λi hi=>?_,I.inj,I.low,I.st,I.Dd⟩,bT _,λU U=>rfl,λi h1 d=>absurd d (Nat.not_lt.mpr h1),λa o e U U=>hk a o e,λU U e=>hb▸e⟩;obtain⟨ob,e,_⟩:=(I.objs i hi).some;exact(I.objs i hi).mono ⟨bT _,λU U=>rfl,λa o e U=>hk a o e⟩ ((hk _ _ e).trans e.symm)
theorem dJ.put(W7)(I:Inv cx W H s)(hi:i<H.n)(c:Heap.SameBut (W i) s.heap s'.heap)(ho:gH cx.prog cx.w H.n W s'.heap (W i) o) (d:s'.os=s.os) (hb:s'.gens=s.gens):dJ cx W7 W H s W (H.put i o) s':=by
 refine⟨⟨λb o e=>c.extBut b o (λq=>?_) (I.keep b o e),d.trans I.os,hb▸I.bare,λj g=>?_,I.inj,I.low,I.st,I.Dd⟩,bT _,λU U=>rfl,λi h1 k=>absurd k (Nat.not_lt.mpr h1),λa o e l U=>c.extBut a o (λq=>l i hi q.symm) e,λU U e=>hb▸e⟩
 subst q;rw[I.low i hi]at e;exact gB e
 show gH _ _ H.n W _ _ (if j=i then o else H.f j);by_cases h:j=i
 subst h;rw[if_pos rfl];exact ho
 rw[if_neg h];exact(I.objs j g).mono ⟨bT _,λU U=>rfl,λa o e hc=>c.extBut a o (λq=>I.m6 e hc i hi q.symm) e⟩ (c.2 _ λq=>h (I.inj j i g hi q))
theorem dJ.new(W7)(I:Inv cx W H s)(d:s.heap.get? a=none)(l:a≠sysModules)(hk:∀a o,s.heap.get? a=some o->s'.heap.get? a=some o)(ho:gH cx.prog cx.w (H.n+1) (λj=>if j=H.n then a else W j) s'.heap a o) (k:s'.os=s.os) (hb:s'.gens=s.gens):dJ cx W7 W H s (λj=>if j=H.n then a else W j) (H.alloc o) s':=by
 have rY:∀i,i<H.n->(λj=>if j=H.n then a else W j) i=W i:=λi hi=>if_neg ();have low:∀i,i<H.n->W i≠a:=λi hi q=>by
  obtain⟨ob,e,_⟩:=(I.objs i hi).some;rw[q,d]at e;exact gB e
 have r:cx.g.get? a=none:=by
  cases e:cx.g.get? a with
  |none=>rfl
  |some o=>rw[I.keep a o e]at d;contradiction
 have ns:∀i,i<H.n+1->(if i=H.n then a else W i)≠sysModules:=λi hi=>by
  by_cases h:i=H.n
  rw[if_pos h];exact l
  rw[if_neg h];exact I.Dd i (bM (cD hi) h)
 refine⟨⟨λb o e=>hk b o (I.keep b o e),k.trans I.os,hb▸I.bare,λi hi=>?_,λi j hi m q=>?_,λi hi=>?_,I.st,ns⟩,cF _,rY,λi h1 p=>?_,λa o e U U=>hk a o e,λU U e=>hb▸e⟩
 show gH _ _ (H.n+1) _ _ _ (if i=H.n then o else H.f i);by_cases h:i=H.n
 rw[if_pos h,if_pos h];exact ho
 rw[if_neg h,if_neg h];have c:=bM (cD hi) h;obtain⟨ob,e,_⟩:=(I.objs i c).some;exact(I.objs i c).mono ⟨cF _,rY,λa o e U=>hk a o e⟩ ((hk _ _ e).trans e.symm)
 by_cases h:i=H.n <;> by_cases h':j=H.n
 rw[h,h']
 rw[if_pos h,if_neg h']at q;exact absurd q.symm (low j (bM (cD m) h'))
 rw[if_neg h,if_pos h']at q;exact absurd q (low i (bM (cD hi) h))
 rw[if_neg h,if_neg h']at q;exact I.inj i j (bM (cD hi) h) (bM (cD m) h') q
 by_cases h:i=H.n
 lia
 rw[if_neg h];exact I.low i (bM (cD hi) h)
 exact(if_pos (Nat.le_antisymm (cD p) h1))▸d
def fC(h:Heap):h.get? h.objs.size=none:=by
 cases e:h.get? h.objs.size with
 |none=>rfl
 |some o=>exact absurd (aV e) (Nat.lt_irrefl _)
abbrev iQ(cx:Cx):Prop:=∃o,cx.g.get? cStatics=some o
noncomputable def ni(lt:Nat->Nat->Bool):KasT α->α
 |.ret a=>a
 |.ask i j k=>ni lt (k (lt i j))
noncomputable def z7(n:Nat)(f:α->Bool):KasT α->Bool
 |.ret a=>f a
 |.ask i j k=>Nat.blt i n&&Nat.blt j n&&!(Nat.beq i j)&&z7 n f (k true)&&z7 n f (k false)
noncomputable def okP(n:Nat)(p:Array Nat):Bool:=Nat.beq p.toList.length n&&p.toList.all λi=>Nat.blt i n
def uh{f:α->Bool}{k:Bool->KasT α}(l:z7 n f (.ask i j k)=true):(i<n/\j<n/\i≠j)/\∀b,z7 n f (k b)=true:=by
 obtain⟨l,c⟩:=aZ l;obtain⟨l,l3⟩:=aZ l;obtain⟨l,a⟩:=aZ l;obtain⟨l1,l2⟩:=aZ l;refine⟨⟨Nat.blt_eq.mp l1,Nat.blt_eq.mp l2,λq=>?_⟩,λb=>?_⟩
 rw[q,show Nat.beq j j=true from Nat.beq_refl j]at a;exact iC a
 cases b
 exact c
 exact l3
def Aj{f:α->Bool}{b:Nat->Nat->(Bool->Shared->Prop)->Shared->Prop}(hc:∀i j C,i<n->j<n->C (lt i j) s->b i j C s){Q:α->Shared->Prop}(t:KasT α):z7 n f t=true->Q (ni lt t) s->t.kasWp b Q s:=by
 induction t with
 |ret a=>exact λU h=>h
 |ask i j k ih=>
  intro l h;obtain⟨⟨h1,c,_⟩,d⟩:=uh l;exact hc i j _ h1 c (ih _ (d _) h)
def Gw(t:KasT α):z7 n f t=true->f (ni lt t)=true:=by
 induction t with
 |ret a=>exact id
 |ask i j k ih=>exact λl=>ih _ ((uh l).2 _)
def uz{f:α->Bool}{lt b:Nat->Nat->Bool}(h:∀i j,i<n->j<n->i≠j->lt i j=b i j)(t:KasT α):z7 n f t=true->ni lt t=ni b t:=by
 induction t with
 |ret a=>exact λU=>rfl
 |ask i j k ih=>
  intro l;obtain⟨⟨h1,d,e⟩,c⟩:=uh l;show ni lt (k _)=ni b _;rw[h i j h1 d e];exact ih _ (c _)
def lG(h:2<=n/\n<=5):z7 n (okP n) (kas_sort n)=true:=by
 have hc:n=2\/n=3\/n=4\/n=5:=by lia
 rcases hc with rfl|rfl|rfl|rfl
 rfl
 rfl
 rfl
 rfl
def qJ{α:Type}(d:α)(lt:α->α->Bool)(xs:List α):List Nat:=(ni (λi j=>lt (xs.getD i d) (xs.getD j d)) (kas_sort xs.length)).toList
def qK(d:α)(lt:α->α->Bool)(xs:List α):List α:=if xs.length<2 then xs else(qJ d lt xs).map λi=>xs.getD i d
def nM{d:α}{lt:α->α->Bool}{xs:List α}(h:2<=xs.length/\xs.length<=5):(qJ d lt xs).length=xs.length/\∀i∈qJ d lt xs,i<xs.length:=by
 have:=Gw (lt:=λi j=>lt (xs.getD i d) (xs.getD j d)) _ (lG h);obtain⟨h1,a⟩:=aZ this;exact⟨Nat.eq_of_beq_eq_true h1,λi hi=>Nat.blt_eq.mp (List.all_eq_true.mp a i hi)⟩
noncomputable def aaV(m:Nat):Nat->List (List Nat)
 |0=>[[]]
 |k+1=>(List.range m).flatMap λa=>(aaV m k).map (a::·)
def Qd(h:∀a∈l,a<m):l∈aaV m l.length:=by
 induction l with
 |nil=>exact .head _
 |cons a l ih=>exact List.mem_flatMap.mpr ⟨a,List.mem_range.mpr (h a (.head _)),aJ (ih λb hb=>h b (.tail _ hb))⟩
noncomputable def ZK:List Nat->Bool
 |[]=>true
 |a::r=>r.all (λb=>Nat.blt a b)&&ZK r
noncomputable def ndB:List Nat->Bool
 |[]=>true
 |a::r=>r.all (λb=>!(Nat.beq a b))&&ndB r
def Wy(n:Nat)(q:List Nat):Bool:=ZK ((ni (λi j=>Nat.blt (q.getD i 0) (q.getD j 0)) (kas_sort n)).toList.map λi=>q.getD i 0)
def Qc(h:2<=n/\n<=5):(aaV n n).all (λq=>!(ndB q)||Wy n q)=true:=by
 have hc:n=2\/n=3\/n=4\/n=5:=by lia
 rcases hc with rfl|rfl|rfl|rfl
 rfl
 rfl
 rfl
 rfl
def Tw(h:ZK l=true):l.Pairwise (· < ·):=by
 induction l with
 |nil=>exact .nil
 |cons a r ih=>
  obtain⟨h1,c⟩:=aZ h;exact .cons (λb hb=>Nat.blt_eq.mp (List.all_eq_true.mp h1 b hb)) (ih c)
def Y6(h:l.Nodup):ndB l=true:=by
 induction l with
 |nil=>rfl
 |cons a r ih=>
  obtain⟨h1,c⟩:=List.nodup_cons.mp h;refine Bool.and_eq_true_iff.mpr ⟨List.all_eq_true.mpr λb hb=>?_,ih c⟩;cases e:Nat.beq a b with
  |false=>rfl
  |true=>exact absurd (Nat.eq_of_beq_eq_true e▸hb) h1
noncomputable def mZ(r:Nat->Nat)(n i:Nat):Nat:=(List.range n).countP λj=>decide (r j<r i)
theorem sG{r:Nat->Nat}(hi:i<n):(mZ r n i<mZ r n j)=(r i<r j):=by
 have mono:∀{a b:Nat},r a<=r b->mZ r n a<=mZ r n b:=λ{a b} h=>by
  exact List.countP_mono_left λk U hk=>decide_eq_true (aM (of_decide_eq_true hk) h)
 refine propext ⟨λh=>?_,λh=>?_⟩
 ·by_cases hc:r i<r j
  ·lia
  ·exact absurd h (Nat.not_lt.mpr (mono (Nat.not_lt.mp hc)))
 ·unfold mZ;obtain⟨l1,l2,e⟩:=List.append_of_mem (List.mem_range.mpr hi);rw[e,List.countP_append,List.countP_append,List.countP_cons,List.countP_cons];have c:l2.countP (λk=>decide (r k<r i))<=l2.countP (λk=>decide (r k<r j)):=List.countP_mono_left λk U hk=>decide_eq_true (cA (of_decide_eq_true hk) h);rw[decide_eq_true h,decide_eq_false (Nat.lt_irrefl (r i))];simp only[if_true,Bool.false_eq_true,if_false];exact Nat.add_lt_add_of_le_of_lt (List.countP_mono_left λk U hk=>decide_eq_true (cA (of_decide_eq_true hk) h)) (Nat.lt_succ_of_le c)
theorem CW{r:Nat->Nat}(hi:i<n):mZ r n i<n:=by
 have h:(List.range n).countP (λj=>decide (r j<r i))<=n:=by
  have:=List.countP_le_length (p:=λj=>decide (r j<r i)) (l:=List.range n)
  rwa [List.length_range]at this
 have a:(List.range n).countP (λj=>decide (r j<r i))≠n:=λq=>by
  exact absurd (of_decide_eq_true (List.countP_eq_length.mp (q.trans List.length_range.symm) i (List.mem_range.mpr hi))) (Nat.lt_irrefl _)
 exact bM h a
theorem K4{α:Type}{a:List α}:∀{b:List α},a.Nodup->(∀x∈a,x∈b)->b.length<=a.length->a.Perm b:=λ{b}=>by
 induction a generalizing b with
 |nil=>exact λU U h=>by rw[List.length_eq_zero_iff.mp (Nat.le_zero.mp h)]
 |cons x a ih=>
  intro c e hl;obtain⟨f,c⟩:=List.nodup_cons.mp c;obtain⟨l1,l2,rfl⟩:=List.append_of_mem (e x (.head _));refine((ih c (λy d=>?_) ?_).cons x).trans List.perm_middle.symm
  rcases aD (e y (.tail _ d))with h|h
  exact cH _ h
  rcases aA h with rfl|h
  lia
  exact aG _ h
  rw[aC,aO]at hl;rw[aO]at hl;rw[aC];lia
theorem mW{d:α}{lt:α->α->Bool}{xs:List α}{r:α->Nat}(C:xs.Nodup)(G:xs.length<=5)(B:∀a∈xs,∀b∈xs,a≠b->r a≠r b/\lt a b=decide (r a<r b)):(qK d lt xs).Perm xs/\(qK d lt xs).Pairwise λa b=>r a<r b:=by
 unfold qK;by_cases c:xs.length<2
 rw[if_pos c];refine⟨.refl _,?_⟩;cases xs with
 |nil=>exact .nil
 |cons x l=>cases l with
  |nil=>exact .cons (λU h=>nomatch h) .nil
  |cons y l=>exact absurd c (Nat.not_lt.mpr (Nat.le_add_left 2 l.length))
 rw[if_neg c];have m:2<=xs.length/\xs.length<=5:=⟨Nat.le_of_not_lt c,G⟩;obtain⟨p1,p2⟩:=nM m
 let f:=λi=>r (xs.getD i d)
 have s:∀i,i<xs.length->xs.getD i d∈xs:=λi hi=>by
  rw[bw,bk hi];exact List.getElem_mem hi
 have p:∀i j,i<xs.length->j<xs.length->i≠j->xs.getD i d≠xs.getD j d:=λi j hi k o q=>by
  rw[bw,bk hi,bw,bk k]at q;have w:=List.pairwise_iff_getElem.mp C;rcases Nat.lt_or_gt_of_ne o with h|h
  exact w i j hi k h q
  exact w j i k hi h q.symm
 let q:=(List.range xs.length).map (mZ f xs.length)
 have t:∀i,i<xs.length->q.getD i 0=mZ f xs.length i:=λi hi=>by
  rw[bw,bW,List.getElem?_range hi];rfl
 have F:q.length=xs.length:=by show((List.range xs.length).map _).length=_;rw[aB,List.length_range]
 have E:∀a∈q,a<xs.length:=λa g=>by
  obtain⟨i,hi,rfl⟩:=aF g;exact CW (List.mem_range.mp hi)
 have qn:q.Nodup:=by
  refine List.pairwise_map.mpr ?_;refine List.Pairwise.imp_of_mem (λ{a b} g hb hab q=>?_) (List.nodup_range);have g:=List.mem_range.mp g;have hb:=List.mem_range.mp hb;have u:=(B _ (s a g) _ (s b hb) (p a b g hb hab)).1;have h1:=sG (r:=f) (j:=b) g;have c:=sG (r:=f) (j:=a) hb;rw[q]at h1;rw[q]at c;exact u ()
 have D:Wy xs.length q=true:=by
  have:=List.all_eq_true.mp (Qc m) q (by have:=Qd E;rwa [F]at this);rw[Y6 qn]at this;exact this
 have ec:ni (λi j=>lt (xs.getD i d) (xs.getD j d)) (kas_sort xs.length)=ni (λi j=>Nat.blt (q.getD i 0) (q.getD j 0)) (kas_sort xs.length):=by
  refine uz (λi j hi k o=>?_) _ (lG m);rw[(B _ (s i hi) _ (s j k) (p i j hi k o)).2,t i hi,t j k];have:=sG (r:=f) (j:=j) hi;cases e:Nat.blt _ _ with
  |true=>exact decide_eq_true (this.mp (Nat.blt_eq.mp e))
  |false=>exact decide_eq_false λz=>by rw[Nat.blt_eq.mpr (this.mpr z)]at e;exact iC e.symm
 have hp:(qJ d lt xs).Pairwise λi j=>f i<f j:=by
  have h1:(qJ d lt xs).Pairwise λi j=>q.getD i 0<q.getD j 0:=by
   have:=Tw D;rw[<- ec]at this;exact List.pairwise_map.mp this
  refine List.Pairwise.imp_of_mem (λ{i j} hi k h=>?_) h1;rw[t i (p2 i hi),t j (p2 j k)]at h;exact(sG (p2 i hi)).mp h
 have A:((qJ d lt xs).map λi=>xs.getD i d).Pairwise λa b=>r a<r b:=List.pairwise_map.mpr hp;refine⟨?_,A⟩;refine K4 (A.imp λ{a b} h (q:a=b)=>Nat.lt_irrefl (r b) (by rw[q]at h;exact h)) (λa g=>?_) (by rw[aB,p1];exact bT _);obtain⟨i,hi,rfl⟩:=aF g;exact s i (p2 i hi)
theorem Hx[BEq α][LawfulBEq α]{d:α}{lt:α->α->Bool}{known xs:List α}(hk:known.Pairwise λa b=>lt a b=true/\lt b a=false)(e:known.Nodup)(s:xs.Nodup)(w:xs.length<=5)(g:∀a∈xs,a∈known):qK d lt xs=known.filter (xs.contains ·):=by
 let r:α->Nat:=λa=>known.idxOf a
 have t:∀a∈known,known[r a]?=some a:=λa c=>by
  have hl:=List.idxOf_lt_length_of_mem c;rw[bk hl];exact congrArg some (List.getElem_idxOf hl)
 have inj:∀a∈known,∀b∈known,r a=r b->a=b:=λa c b hb q=>by
  have h1:=t a c;rw[q,t b hb]at h1;exact(bh h1).symm
 have l:∀a∈known,∀b∈known,r a<r b->lt a b=true/\lt b a=false:=λa c b hb h=>by
  have k:=List.idxOf_lt_length_of_mem c;have m:=List.idxOf_lt_length_of_mem hb;have:=List.pairwise_iff_getElem.mp hk (r a) (r b) k m h;rw[show known[r a]=a from List.getElem_idxOf k,show known[r b]=b from List.getElem_idxOf m]at this;exact this
 obtain⟨h1,u⟩:=mW (d:=d) (lt:=lt) (r:=r) s w λa c b hb o=>by
  have n:r a≠r b:=λq=>o (inj a (g a c) b (g b hb) q);refine⟨n,?_⟩;by_cases f:r a<r b
  ·rw[decide_eq_true f];exact(l a (g a c) b (g b hb) f).1
  ·rw[decide_eq_false f];exact(l b (g b hb) a (g a c) ()).2
 have kp:known.Pairwise λa b=>r a<r b:=by
  refine List.pairwise_iff_getElem.mpr λi j hi v p=>?_;show known.idxOf known[i]<known.idxOf known[j];rw[e.idxOf_getElem i hi,e.idxOf_getElem j v];exact p
 refine List.Perm.eq_of_pairwise (le:=λa b=>r a<r b) (λa b U U v z=>absurd v (Nat.lt_asymm z)) u (kp.filter _) (h1.trans ?_);refine(List.perm_ext_iff_of_nodup s (e.filter _)).mpr λa=>?_;rw[List.mem_filter,cI];exact⟨λh=>⟨g a h,h⟩,λh=>h.2⟩
section
noncomputable abbrev Sc:=List (Str×NameKind)
noncomputable abbrev Loc:=List (Str×V)
inductive Fl where
 |next|brk|cont
 |ret (v:V)
inductive Src where
 |arg (i:Nat)|kw (i:Nat)|dflt (v:V)
noncomputable def Src.get(args kws:List V):Src->V
 |.arg i=>args.getD i .n
 |.kw i=>kws.getD i .n
 |.dflt v=>v
structure Pe where
 glob:Str->Option V
 fn:Addr->Option FuncData
 sig:Addr->Nat->List Str->List (Str×Src)->Prop
 cls:Addr->Str->Option (Option Addr)
 init:Addr->Option Addr
 lam:Sc->Option (Addr×Addr×Str)
 RZ:Option (List (Str×Str))
 lst:Addr->Option (List Int)
 gen:Addr->Prop
noncomputable def eO:Loc->Str->V->Loc
 |[],x,v=>[(x,v)]
 |(y,u)::r,x,v=>if y=x then(x,v)::r else(y,u)::eO r x v
noncomputable def adI(pe:Pe)(J:Loc)(x:Str):Option NameKind->Option V
 |some .local=>J.lookup x
 |some .cell=>J.lookup x
 |some .free=>J.lookup x
 |some .globalImplicit=>pe.glob x
 |_=>none
def look(pe:Pe)(O:Sc)(J:Loc)(x:Str):Option V:=
 if x="__debug__"\/x="__classdict__" then none else adI pe J x (O.lookup x)
noncomputable def cst:Const->Option V
 |.none=>some .n
 |.bool b=>some (.b b)
 |.int i=>some (.i i)
 |.str s=>some (.s s)
 |_=>none
noncomputable def lim:Nat:=16777216
def w6:dN->Option Bool
 |.l xs=>if xs.length<=lim then some (!xs.isEmpty)else none
 |.d kvs=>if kvs.length<=lim then some (!kvs.isEmpty)else none
 |_=>none
def truth(H:Hp):V->Option Bool
 |.n=>some false
 |.b b=>some b
 |.i i=>some (i !=0)
 |.s s=>if s.length<=lim then some (s.length !=0)else none
 |.t xs=>if xs.length<=lim then some (!xs.isEmpty)else none
 |.r i=>w6 (H.f i)
 |_=>none
noncomputable def strsOf:List V->Option (List Str)
 |[]=>some []
 |.s s::r=>(strsOf r).map (s::·)
 |_::_=>none
noncomputable def boolsOf:List V->Option (List Bool)
 |[]=>some []
 |.b s::r=>(boolsOf r).map (s::·)
 |_::_=>none
noncomputable def intsOf:List V->Option (List Int)
 |[]=>some []
 |.i i::r=>(intsOf r).map (i::·)
 |_::_=>none
noncomputable def isNone:V->Bool
 |.n=>true
 |_=>false
def nW:List (Str×Pm):=[("append",.jh),("pop",.adW),("sort",.Wt),("extend",.Gu),("index",.Mw)]
def n8:List (Str×Pm):=[("items",.Pa),("get",.aaF),("update",.G8)]
def xu:List (Str×Pm):=[("add",.Yl)]
def strTab:List (Str×Pm):=[("join",.tG),("strip",.J1),("rsplit",.Fx),("split",.J3),("find",.abL),("startswith",.QZ),("endswith",.abM)]
noncomputable def Ay(pe:Pe)(name:Str)(i:Nat)(C:Addr):dN->Option V
 |.n kvs=>(pe.cls C name).bind λm=>(kvs.lookup name).or (m.map λf=>.m f (.r i))
 |_=>none
def wV(pe:Pe)(H:Hp)(name:Str)(i:Nat):dN->Option V
 |.i C d=>Ay pe name i C (H.f d)
 |.l _=>(nW.lookup name).map λp=>.k p (.r i)
 |.d _=>(n8.lookup name).map λp=>.k p (.r i)
 |.e _=>(xu.lookup name).map λp=>.k p (.r i)
 |_=>none
def attr(pe:Pe)(H:Hp)(name:Str):V->Option V
 |.r i=>wV pe H name i (H.f i)
 |.s s=>(strTab.lookup name).map λp=>.k p (.s s)
 |_=>none
def Um(pe:Pe)(H:Hp)(name:Str)(i:Nat):dN->Option V
 |.i C d=>Ay pe name i C (H.f d)
 |_=>none
def fld(pe:Pe)(H:Hp)(name:Str):V->Option V
 |.r i=>Um pe H name i (H.f i)
 |_=>none
noncomputable def uF(i:Nat):dN->Option (List V×Option Nat)
 |.l xs=>some (xs,some i)
 |_=>none
def items(H:Hp):V->Option (List V×Option Nat)
 |.r i=>uF i (H.f i)
 |.t xs=>some (xs,none)
 |.s x=>some (x.cps.toList.map λc=>.s ⟨#[c]⟩,none)
 |.g m=>some ((List.range m).map λk:Nat=>.i k,none)
 |_=>none
def stands(H H':Hp):Option Nat->Prop
 |none=>True
 |some i=>H'.f i=H.f i
set_option backward.match.sparseCases false in
noncomputable def Bd:Expr->Nat
 |.Starred _ _=>1
 |.Set _ _ _=>2
 |.ListComp _ _ _ _=>3
 |.SetComp _ _ _ _=>3
 |.DictComp _ _ _ _ _=>3
 |.Slice _ _ _ _=>4
 |.UnaryOp .Not _ _=>5
 |.BoolOp _ _ _=>5
 |.IfExp _ _ _ _=>5
 |.Compare _ _ _ _=>5
 |_=>0
def isStar(e:Expr):Bool:=Nat.beq (Bd e) 1
def gA(e:Expr):Bool:=Nat.beq (Bd e) 2
def nY(e:Expr):Bool:=Nat.beq (Bd e) 3
def isSlice(e:Expr):Bool:=Nat.beq (Bd e) 4
def plainT(e:Expr):Bool:=Nat.ble (Bd e) 4
set_option backward.match.sparseCases false in
noncomputable def jX:Expr->Bool
 |.Call (.Name id _) [] [] _=>id=="super"
 |_=>false
set_option backward.match.sparseCases false in
noncomputable def isName:Expr->Option Str
 |.Name id _=>some id
 |_=>none
noncomputable def Xj:dN->Option (List V)
 |.l xs=>some xs
 |_=>none
def unp(H:Hp):V->Option (List V)
 |.t xs=>some xs
 |.r i=>Xj (H.f i)
 |_=>none
noncomputable def YL:Option NameKind->Bool
 |some .local=>true
 |some .cell=>true
 |_=>false
def own(O:Sc)(id:Str):Bool:=YL (O.lookup id)
def jl(O:Sc):List Expr->List V->Loc->Option Loc
 |[],[],J=>some J
 |t::ts,v::vs,J=>(isName t).bind λid=>if own O id then jl O ts vs (eO J id v)else none
 |_,_,_=>none
set_option backward.match.sparseCases false in
def iB(O:Sc)(H:Hp):Expr->V->Loc->Option Loc
 |.Name id _,v,J=>if own O id then some (eO J id v)else none
 |.Tuple ts _ _,v,J=>(unp H v).bind λxs=>jl O ts xs J
 |_,_,_=>none
set_option backward.match.sparseCases false in
def jf:Expr->List Str
 |.Name id _=>[id]
 |.Tuple ts _ _=>ts.filterMap isName
 |_=>[]
noncomputable def Hf(O names:Sc)(x:Str):NameKind->Bool
 |.cell=>false
 |.free=>O.lookup x==some .cell&&names.lookup x==some .free
 |.local=>names.lookup x==some .local
 |_=>true
def ji(pe:Pe)(O:Sc)(scope:Scope):Bool:=decide (scope.kind=.function)&&(pe.lam scope.names).isNone&&scope.names.all λp=>Hf O scope.names p.1 p.2
noncomputable def around(names:Sc)(J:Loc):Loc:=J.filter λp=>names.lookup p.1==some .free
noncomputable def atIdx(xs:List V)(k:Int):Option V:=if ¬ (-1000000<k/\k<1000000)then none else if 0<=k then xs[k.toNat]? else if-k<=xs.length then xs[(xs.length+k).toNat]? else none
def Nq:dN->V->Option V
 |.l xs,.i k=>atIdx xs k
 |.d kvs,.s k=>kvs.lookup k
 |_,_=>none
def index(H:Hp):V->V->Option V
 |.r i,k=>Nq (H.f i) k
 |.t xs,.i k=>atIdx xs k
 |_,_=>none
noncomputable def jN(xs:List V)(lo hi st:Option Int):List V:=
 (sliceRange (sliceBounds lo hi st xs.length).1 (sliceBounds lo hi st xs.length).2.1 (sliceBounds lo hi st xs.length).2.2).filterMap (xs[·]?)
noncomputable def Im(a b:Str):Bool:=decide (a.cps.toList<b.cps.toList)
def ltK:List Str->List Str->Bool
 |[],[]=>false
 |[],_::_=>true
 |_::_,[]=>false
 |a::r,b::q=>if a=b then ltK r q else Im a b
noncomputable def Gg:V->List Str
 |.t [.s a,.s b]=>[a,b]
 |.s a=>[a]
 |_=>[]
noncomputable def isS:V->Bool
 |.s _=>true
 |_=>false
def ahM:List V->Bool
 |[a,b]=>isS a&&isS b
 |_=>false
def pP:V->Bool
 |.t xs=>ahM xs
 |_=>false
def ltPair(a b:V):Bool:=ltK (Gg a) (Gg b)
structure jq (xs ys:List V):Prop where
 kind:xs.all pP=true\/xs.all isS=true
 few:xs.length<=5
 eq:qK .n ltPair xs=ys
def putD(H:Hp)(d:Nat)(k:Str)(v:V):dN->Option Hp
 |.d kvs=>if kvs.length<lim then some (H.put d (.d (eO kvs k v)))else none
 |_=>none
def putN(H:Hp)(d:Nat)(k:Str)(v:V):dN->Option Hp
 |.n kvs=>if kvs.length<1000 then some (H.put d (.n (eO kvs k v)))else none
 |_=>none
noncomputable def Ng(pe:Pe)(name:Str):dN->Option Nat
 |.i C d=>(pe.cls C name).map λU=>d
 |_=>none
def yq(pe:Pe)(H:Hp)(name:Str):V->Option Nat
 |.r i=>Ng pe name (H.f i)
 |_=>none
noncomputable def Bu:V->Bool
 |.s _=>true
 |.i _=>true
 |_=>false
noncomputable def callable(pe:Pe):V->Bool
 |.f a=>(pe.fn a).isSome||(pe.init a).isSome
 |.m g _=>(pe.fn g).isSome
 |.k _ _=>true
 |.e _=>true
 |_=>false
noncomputable def brace:Str:=⟨#[125]⟩
def nameKey(n:Str):List Str:=Txt.splitMax n brace 1
def lu(a b:Str):Bool:=ltK (nameKey a) (nameKey b)
structure mq (ks out:List Str):Prop where
 few:ks.length<=5
 eq:∀l,l.Perm ks->qK cJ lu l=out
noncomputable def lE:Str:="_namespace_map"
noncomputable def flV:Fl->Option V
 |.ret v=>some v
 |.next=>some .n
 |_=>none
noncomputable def isNext:Fl->Bool
 |.next=>true
 |_=>false
noncomputable def uL:Fl->Bool
 |.next=>true
 |.cont=>true
 |_=>false
set_option backward.match.sparseCases false in
noncomputable def V3(O:Sc)(line:Nat):Expr->Bool
 |.Name id pos=>(O.lookup id==some .local)&&pos.line==line
 |_=>false
def Ck(O:Sc)(ts vs:List Expr):Bool:=
 (ts.length==2||ts.length==3)&&vs.length==ts.length&&!vs.any isStar&&ts.all (V3 O ((ts.head?.map (·.pos.line)).getD 0)) &&
 (ts.filterMap isName).eraseDups.length==(ts.filterMap isName).length&&decide (ts.filterMap isName).Nodup&&!vs.all (foldedForSure 8)&&!vs.all (constantsAlone 8)
set_option genCtorIdx false in
inductive Em where
 |el (e:Expr)
 |kv (k v:Expr)
noncomputable def vJ:V->Str×V
 |.t [.s k,v]=>(k,v)
 |_=>(cJ,.n)
def iu(ys:List V):List (Str×V):=ys.foldl (λd p=>eO d (vJ p).1 (vJ p).2) []
end
variable {J eE dI mH Iu:Loc} {O:Sc} {em:Em} {fl':Fl}
noncomputable abbrev Cx.M(cx:Cx):Model:=model cx.prog cx.w
structure Ar (n:Nat) (A:Around):Prop where
 handled:A.handled=none
 depth:A.depth+4*n<1000
 units:A.units+20*n<9900
structure ArF (n:Nat) (A:Around):Prop where
 handled:A.handled=none
 depth:A.depth+4*n+2<1000
 units:A.units+20*n+10<9900
def Ar.f(x:Ar (n+1) A):ArF n A:=⟨x.handled,by have:=x.depth;lia,by have:=x.units;lia⟩
def Ar.le(x:Ar n A)(h:m<=n):Ar m A:=⟨x.handled,by have:=x.depth;lia,by have:=x.units;lia⟩
structure iZ (cx:Cx) (T:Env) (O:Sc):Prop where
 kind:T.scope.kind=.function
 names:∀x k,O.lookup x=some k->T.kindOf x=some k\/(k=.free/\T.kindOf x=some .cell)
 globals:T.globals=mainGlobals
 builtins:T.builtins=builtinsNs
 code:∃q,cx.g.CodeRec T.code q
 lam:∀c P q,cx.lam O=some (c,P,q)->T.code=.ref c/\T.qual++"<lambda>"=q
structure fK (cx:Cx) (T:Env) (n:Nat) (W:Nat->Addr) (h:Heap) (J:Loc):Prop where
 ns:∃m,h.Ns T.locals m/\∀x v,J.lookup x=some v->T.kindOf x=some .local->∃u,m x=some u/\Rep n W h u v
 cell:∀x v,J.lookup x=some v->(T.kindOf x=some .cell\/T.kindOf x=some .free)->Ex2 λc u=>T.cells.lookup x=some c/\h.IsCell c (some u)/\Rep n W h u v
 BZ:∀i,i<n->W i≠T.locals
 Bw:∀x c,T.cells.lookup x=some c->∀i,i<n->W i≠c
 cells:∀x c,T.cells.lookup x=some c->(∃v,h.IsCell c v)/\c≠T.locals/\cx.g.get? c=none
 has:∀x,T.kindOf x=some .cell->∃c,T.cells.lookup x=some c
 dist:∀x y c,T.cells.lookup x=some c->T.cells.lookup y=some c->x=y
 low:cx.g.get? T.locals=none
def dJ.rep{cx W H s ρ' H' s'}(I:Inv cx W H s)(S:dJ cx fV W H s ρ' H' s'){v x}(r:Rep H.n W s.heap v x):Rep H'.n ρ' s'.heap v x:=
 r.mono (S.kp I λU U U U x=>x)
def dJ.zO(I:Inv cx W H s)(S:dJ cx fV W H s ρ' H' s'){v x}(r:dR H.n W s.heap v x):dR H'.n ρ' s'.heap v x:=
 r.mono (S.kp I λU U U U x=>x)
def iY{h:Heap}{v:Option Value}(x:h.IsCell c v)(hk:∀o,h.get? c=some o->h'.get? c=some o):h'.IsCell c v:=
 by obtain⟨o,ho,hd⟩:=x;exact⟨o,hk o ho,hd⟩
theorem fK.step(I:Inv cx W H s)(X:fK cx T H.n W s.heap J)(S:dJ cx fV W H s ρ' H' s'):fK cx T H'.n ρ' s'.heap J:=by
 obtain⟨m,g,i⟩:=X.ns;obtain⟨j,_,_,f,_⟩:=id g;have up:=λc o hc e=>S.ext c o e hc (λx=>x);refine⟨⟨m,g.at' λo e=>up _ o X.BZ e,λx v e k=>?_⟩,λx v e k=>?_,S.old f X.BZ,λx c e=>?_,λx c e=>?_,X.has,X.dist,X.low⟩
 obtain⟨u,a,b⟩:=i x v e k;exact⟨u,a,S.rep I b⟩
 obtain⟨c,u,a,b,d⟩:=X.cell x v e k;exact⟨c,u,a,iY b λo q=>up _ o (X.Bw x c a) q,S.rep I d⟩
 obtain⟨⟨v,o,ho,_⟩,_,_⟩:=X.cells x c e;exact S.old ho (X.Bw x c e)
 obtain⟨⟨v,h⟩,a,b⟩:=X.cells x c e;exact⟨⟨v,iY h λo q=>up _ o (X.Bw x c e) q⟩,a,b⟩
structure Ey (n:Nat) (W:Nat->Addr) (h:Heap) (kvs:List (Str×Value)) (kws:List (Str×V)):Prop where
 names:kvs.map (·.1)=kws.map (·.1)
 vals:dR n W h (kvs.map (·.2)) (kws.map (·.2))
inductive Ez (n:Nat) (W:Nat->Addr) (h:Heap):Flow->Fl->Prop
 |next:Ez n W h .next .next
 |brk:Ez n W h .brk .brk
 |cont:Ez n W h .cont .cont
 |ret {v x:_}:Rep n W h v x->Ez n W h (.ret v) (.ret x)
def Wr(T:Env):Addr->Prop:=λa=>a=T.locals\/∃x,T.cells.lookup x=some a
def fK.zW(X:fK cx T H.n W s.heap J)(T7:dJ cx W7 W H s ρ' H' s'):∀i,H.n<=i->i<H'.n->¬ Wr T (ρ' i):=λi h1 b w=>by
 have hf:=T7.fresh i h1 b;obtain⟨m,⟨c,_,_,a,_⟩,_⟩:=X.ns;rcases w with w|⟨x,w⟩
 lia
 obtain⟨⟨v,o,ho,_⟩,_,_⟩:=X.cells x _ w;rw[ho]at hf;contradiction
inductive Hr (n:Nat) (W:Nat->Addr) (h:Heap):Value->List Value->V->Prop
 |obj {f x:_}:Rep n W h f x->Hr n W h f [] x
 |mt {g:Addr} {w:Value} {y:V}:Rep n W h w y->Hr n W h (.ref g) [w] (.m g y)
 |bm {p:Pm} {w:Value} {y:V}:Rep n W h w y->Hr n W h (.builtin p.id) [w] (.k p y)
structure aiZ (cx:Cx) (f:Addr) (fd:FuncData):Prop where
 obj:∃o,cx.g.get? f=some o/\o.data=.func fd
 glo:fd.globals=mainGlobals
 bui:fd.builtins=builtinsNs
 clo:fd.closure=[]
 kind:fd.scope.kind=.function
 gen:fd.scope.isGenerator=false
 cor:fd.scope.isCoroutine=false
 code:cx.g.CodeRec fd.code fd.qualname
 lam:∀c P q,cx.lam fd.scope.names=some (c,P,q)->fd.code=.ref c/\fd.qualname++".<locals>."++"<lambda>"=q
def afU(g:Heap)(vs:List Value)(kvs:List (Str×Value)):Src->Value->Prop
 |.arg i,u=>vs[i]?=some u
 |.kw i,u=>(kvs.map (·.2))[i]?=some u
 |.dflt v,u=>∀n W h,(∀b o,g.get? b=some o->h.get? b=some o)->Rep n W h u v
inductive vX (g:Heap) (vs:List Value) (kvs:List (Str×Value)):List (Str×Src)->List Value->Prop
 |nil:vX g vs kvs [] []
 |cons {p ps u us:_}:afU g vs kvs p.2 u->vX g vs kvs ps us->vX g vs kvs (p::ps) (u::us)
structure wW (cx:Cx) (fd:FuncData) (n:Nat) (ks:List Str) (ps:List (Str×Src)):Prop where
 kinds:∀p∈ps,fd.scope.names.lookup p.1=some .local\/fd.scope.names.lookup p.1=some .cell
 nodup:(ps.map (·.1)).Nodup
 bind:∀{A:Around} {s:Shared} {vs:List Value} {kvs:List (Str×Value)} {Q:List (Str×Value)->Shared->Prop} {E:Value->Shared->Prop},(∀b o,cx.g.get? b=some o->s.heap.get? b=some o)->vs.length=n->kvs.map (·.1)=ks ->
  (∀us:List Value,vX cx.g vs kvs ps us->Q ((ps.map (·.1)).zip us) s)->wpAny cx.M A (bindArgs fd ⟨vs,kvs⟩) Q E s
structure Hq (cx:Cx) (C:Addr) (name:Str) (m:Option Addr):Prop where
 hga:findIn cx.K (.ref C) "__getattribute__"=some (some (.builtin "object.__getattribute__"))
 hk:findIn cx.K (.ref C) "__getattr__"=some none
 hsa:findIn cx.K (.ref C) "__setattr__"=some (some (.builtin "object.__setattr__"))
 hf:findIn cx.K (.ref C) name=some (m.map .ref)
 cd:∃cd,clsIn cx.K C=some cd/\cd.hasDict=true
 over:plainOver cx.K C=true
 cop:copiedNames.contains name=false
 fn:∀f,m=some f->typeIn cx.K (.ref f)=some (.type "function")/\specialIn cx.K (.ref f) "__get__"=some (some (.builtin "function.__get__"))/\takesIn cx.K (.ref f)=some false
noncomputable abbrev gIf(p5 p6 p7 p8 p9:Pos):List Stmt:=[.If (.Name "namespaces" p5) [.Expr (.YieldFrom (.Name "namespaces" p6) p7) p8] [] p9]
abbrev aek(p1 p2 p3 p4 p5 p6 p7 p8 p9 Qk:Pos):List Stmt:=[.For (.Name "namespaces" p1) (.Call (.Name "_reversed" p2) [.Name "ns_stack" p3] [] p4) (gIf p5 p6 p7 p8 p9) [] Qk]
structure afY (cx:Cx) (f:Addr) (fd:FuncData):Prop where
 obj:∃o,cx.g.get? f=some o/\o.data=.func fd
 gen:fd.scope.isGenerator=true
 cor:fd.scope.isCoroutine=false
 kind:fd.scope.kind=.function
 body:af2 λp1 p2 p3 p4 p5 p6 p7 p8 p9 Qk=>fd.body=.stmts (aek p1 p2 p3 p4 p5 p6 p7 p8 p9 Qk)
 code:cx.g.CodeRec fd.code fd.qualname
 names:fd.scope.names=([("self",.local),("ns_stack",.local),("_reversed",.local),("namespaces",.local)]:Sc)
 bind:∀{A:Around} {s:Shared} {v1 v2:Value} {Q:List (Str×Value)->Shared->Prop} {E:Value->Shared->Prop},(∀b o,cx.g.get? b=some o->s.heap.get? b=some o)->Q [("self",v1),("ns_stack",v2),("_reversed",.type "reversed")] s->wpAny cx.M A (bindArgs fd ⟨[v1,v2],[]⟩) Q E s
structure eY (pe:Pe) (cx:Cx):Prop where
 glob:∀{x v},pe.glob x=some v->∃u,(∀n W h,Rep n W h u v)/\∀{A:_} {T:Env} {s:Shared} {Q:Value->Shared->Prop} {E},T.globals=mainGlobals->T.builtins=builtinsNs ->
  (∀b o,cx.g.get? b=some o->s.heap.get? b=some o)->Q u s->wpAny cx.M A (loadGlobal T x) Q E s
 noLimit:cx.g.NoLimit
 sys:iQ cx
 fn:∀{f fd},pe.fn f=some fd->aiZ cx f fd
 kin:cx.K.In cx.g
 init:∀{C g},pe.init C=some g->makesIn cx.K C=true/\findIn cx.K (.ref C) "__init__"=some (some (.ref g))/\typeIn cx.K (.ref g)=some (.type "function")
 cls:∀{C name m},pe.cls C name=some m->Hq cx C name m
 lam:∀O,pe.lam O=cx.lam O
 Ws:∀{O c P q},cx.lam O=some (c,P,q)->CodeHd cx.g c P/\∃mg,cx.g.Ns mainGlobals mg/\cx.g.BuiltinsAt mg P/\mainGlobals≠P
 RZ:∀{l},pe.RZ=some l->pe.glob "list"=some (.e .list)/\Ex2 λa ps=>(∀{A:_} {T:Env} {s:Shared} {Q:Value->Shared->Prop} {E},T.globals=mainGlobals->T.builtins=builtinsNs ->
  (∀b o,cx.g.get? b=some o->s.heap.get? b=some o)->Q (.ref a) s->wpAny cx.M A (loadGlobal T lE) Q E s)/\(a==sysModules)=false/\ps.length<=1000/\cx.g.DictOf (PySem.strKind cx.prog cx.w) a ps/\ps.map (·.1)=l.map (·.1)/\StrsAre (ps.map (·.2)) (l.map (·.2))
 lst:∀{a is},pe.lst a=some is->is.length<=1000/\∃vs:Array Value,cx.g.IsList a vs/\∀n W h,dR n W h vs.toList (is.map .i)
 sig:∀{f fd n ks ps},pe.fn f=some fd->pe.sig f n ks ps->wW cx fd n ks ps
 gen:∀{f},pe.gen f->∃fd,afY cx f fd
structure Cn (cx:Cx) (n:Nat) (O:Sc) (J:Loc) (H:Hp) (A:Around) (T:Env) (W:Nat->Addr) (s:Shared):Prop where
 ar:Ar n A
 en:iZ cx T O
 inv:Inv cx W H s
 vars:fK cx T H.n W s.heap J
def Cn.low(C:Cn cx (n+1) O J H A T W s):Cn cx n O J H A T W s:=⟨C.ar.le (cF n),C.en,C.inv,C.vars⟩
def Cn.step(C:Cn cx n O J H A T W s)(S:dJ cx fV W H s ρ' H' s'):Cn cx n O J H' A T ρ' s':=⟨C.ar,C.en,S.inv,C.vars.step C.inv S⟩
def Cn.to(C:Cn cx n O J H A T W s)(I:Inv cx ρ' H' s')(X:fK cx T H'.n ρ' s'.heap dI):Cn cx n O dI H' A T ρ' s':=⟨C.ar,C.en,I,X⟩
def GE(cx:Cx)(n:Nat)(O:Sc)(J:Loc)(e:Expr)(H:Hp)(x:V)(H':Hp):Prop:=
 ∀⦃A T W s⦄ ⦃Q:Value->Shared->Prop⦄ ⦃E⦄,Cn cx n O J H A T W s->(∀v s' ρ',dJ cx fV W H s ρ' H' s'->Rep H'.n ρ' s'.heap v x->Q v s')->wpAny cx.M A (eval e T) Q E s
def GT(cx:Cx)(n:Nat)(O:Sc)(J:Loc)(e:Expr)(H:Hp)(b:Bool)(H':Hp):Prop:=
 ∀⦃A T W s⦄ ⦃Q:Bool->Shared->Prop⦄ ⦃E⦄,Cn cx n O J H A T W s->(∀s' ρ',dJ cx fV W H s ρ' H' s'->Q b s')->wpAny cx.M A (isTrue e T (eval e T)) Q E s
def GC(cx:Cx)(n:Nat)(O:Sc)(J:Loc)(e:Expr)(H:Hp)(x:V)(H':Hp):Prop:=
 ∀⦃A T W s⦄ ⦃u:Value->Sem Unit⦄ ⦃Q:Unit->Shared->Prop⦄ ⦃E⦄,Cn cx n O J H A T W s ->
  (∀v s' ρ' a m,dJ cx fV W H s ρ' H' s'->Rep H'.n ρ' s'.heap v x->s'.heap.Ns a m->(∀i,i<H'.n->ρ' i≠a)->s.heap.get? a=none->cx.g.get? a=none->¬ Wr T a ->
   wpAny cx.M A (u v) (λU b=>∃m,b.heap.Ns a m/\∀h',Heap.SameBut a b.heap h'->Q Unit.unit {b with heap:=h'}) E s')->wpAny cx.M A (evalThenUse e T u) Q E s
abbrev QX(cx:Cx)(T:Env)(W:Nat->Addr)(H:Hp)(s:Shared)(fl:Fl)(dI:Loc)(H':Hp)(Q:Flow->Shared->Prop):Prop:=
 ∀f s' ρ',dJ cx (Wr T) W H s ρ' H' s'->fK cx T H'.n ρ' s'.heap dI->Ez H'.n ρ' s'.heap f fl->Q f s'
def GX(cx:Cx)(n:Nat)(O:Sc)(st:Stmt)(J:Loc)(H:Hp)(fl:Fl)(dI:Loc)(H':Hp):Prop:=
 ∀⦃A T W s⦄ ⦃Q:Flow->Shared->Prop⦄ ⦃E⦄,Cn cx n O J H A T W s->QX cx T W H s fl dI H' Q->wpAny cx.M A (exec st T) Q E s
def vY(cx:Cx)(n:Nat)(O:Sc)(body:List Stmt)(J:Loc)(H:Hp)(fl:Fl)(dI:Loc)(H':Hp):Prop:=
 ∀⦃A T W s⦄ ⦃Q:Flow->Shared->Prop⦄ ⦃E⦄,Cn cx n O J H A T W s->QX cx T W H s fl dI H' Q->wpAny cx.M A (execs body T) Q E s
def gV(cx:Cx)(n:Nat)(f:V)(args:List V)(kws:List (Str×V))(H:Hp)(x:V)(H':Hp):Prop:=
 ∀⦃A s W fv first vs kvs⦄ ⦃Q:Value->Shared->Prop⦄ ⦃E⦄,Ar n A->Inv cx W H s->Hr H.n W s.heap fv first f->dR H.n W s.heap vs args->Ey H.n W s.heap kvs kws ->
  (∀v s' ρ',dJ cx fV W H s ρ' H' s'->Rep H'.n ρ' s'.heap v x->Q v s')->wpAny cx.M A (call fv (first++vs) kvs) Q E s
def yU(cx:Cx)(n:Nat)(f:Addr)(args:List V)(kws:List (Str×V))(H:Hp)(x:V)(H':Hp):Prop:=
 ∀⦃A s W vs kvs⦄ ⦃R:Result->Shared->Prop⦄,ArF n A->Inv cx W H s->dR H.n W s.heap vs args->Ey H.n W s.heap kvs kws ->
  (∀v s' ρ',dJ cx fV W H s ρ' H' s'->Rep H'.n ρ' s'.heap v x->R (.ok (.ret v)) s')->codeAny cx.M A (.call (.ref f) ⟨vs,kvs⟩) R s
def GL(cx:Cx)(n:Nat)(O:Sc)(J:Loc)(es:List Expr)(H:Hp)(xs:List V)(H':Hp):Prop:=
 (∀pos T,(backTo pos (starEach es T)).all (λp=>!p.1)=true)/\(∀T,es=[]/\xs=[]/\H'=H\/Ex2 λe a=>es=e::a/\starEach (e::a) T=(false,eval e T)::starEach a T) /\
 ∀⦃A T W s pos⦄ ⦃Q:List Value->Shared->Prop⦄ ⦃E⦄,Cn cx n O J H A T W s->(∀vs s' ρ',dJ cx fV W H s ρ' H' s'->dR H'.n ρ' s'.heap vs xs->Q vs s')->wpAny cx.M A (spliced (backTo pos (starEach es T))) Q E s
def Qu(cx:Cx)(n:Nat)(O:Sc)(J:Loc)(ks:List Keyword)(H:Hp)(xs:List (Str×V))(H':Hp):Prop:=
 (∀pos T,(backToKw pos (keywordEach ks T)).all (·.1.isSome)=true/\(backToKw pos (keywordEach ks T)).filterMap (·.1)=xs.map (·.1)) /\
 ∀⦃A T W s pos⦄ ⦃Q:List Value->Shared->Prop⦄ ⦃E⦄,Cn cx n O J H A T W s->(∀vs s' ρ',dJ cx fV W H s ρ' H' s'->dR H'.n ρ' s'.heap vs (xs.map (·.2))->Q vs s')->wpAny cx.M A (evalAll ((backToKw pos (keywordEach ks T)).map (·.2))) Q E s
def GTs(cx:Cx)(n:Nat)(O:Sc)(J:Loc)(op:BoolOp)(es:List Expr)(H:Hp)(b:Bool)(H':Hp):Prop:=
 ∀⦃A T W s⦄ ⦃Q:Bool->Shared->Prop⦄ ⦃E⦄,Cn cx n O J H A T W s->(∀s' ρ',dJ cx fV W H s ρ' H' s'->Q b s')->wpAny cx.M A (allTrue op es T) Q E s
def GBo(cx:Cx)(n:Nat)(O:Sc)(J:Loc)(op:BoolOp)(es:List Expr)(H:Hp)(x:V)(H':Hp):Prop:=
 ∀⦃A T W s pos⦄ ⦃Q:Value->Shared->Prop⦄ ⦃E⦄,Cn cx n O J H A T W s->(∀v s' ρ',dJ cx fV W H s ρ' H' s'->Rep H'.n ρ' s'.heap v x->Q v s')->wpAny cx.M A (boolOp pos op (evalEach es T)) Q E s
def zf(cx:Cx)(n:Nat)(O:Sc)(J:Loc)(ifs:List Expr)(H:Hp)(b:Bool)(H':Hp):Prop:=
 ∀⦃A T W s⦄ ⦃Q:Bool->Shared->Prop⦄ ⦃E⦄,Cn cx n O J H A T W s->(∀s' ρ',dJ cx fV W H s ρ' H' s'->Q b s') ->
  wpAny cx.M A (forIn ifs true λc r=>if r=true then do let ok <- isTrue c T (eval c T);pure (ForInStep.yield ok)else pure (ForInStep.yield r)) Q E s
def GO(cx:Cx)(n:Nat)(O:Sc)(J:Loc)(a:Option Expr)(H:Hp)(l:Option Int)(H':Hp):Prop:=
 ∀⦃A T W s⦄ ⦃Q:Value->Shared->Prop⦄ ⦃E⦄,Cn cx n O J H A T W s->(∀v s' ρ',dJ cx fV W H s ρ' H' s'->IsPart v l->Q v s')->wpAny cx.M A (evalPart a T) Q E s
def GA(cx:Cx)(n:Nat)(O:Sc)(t:Expr)(v:V)(J:Loc)(H:Hp)(dI:Loc)(H':Hp):Prop:=
 ∀⦃A T W s u⦄ ⦃Q:Unit->Shared->Prop⦄ ⦃E⦄,Cn cx n O J H A T W s->Rep H.n W s.heap u v->(∀s' ρ',dJ cx (Wr T) W H s ρ' H' s'->fK cx T H'.n ρ' s'.heap dI->Q Unit.unit s')->wpAny cx.M A (assign t T u) Q E s
def VB(cx:Cx)(n:Nat)(O:Sc)(ts:List Expr)(v:V)(J:Loc)(H:Hp)(dI:Loc)(H':Hp):Prop:=
 ∀⦃A T W s u⦄ ⦃Q:Unit->Shared->Prop⦄ ⦃E⦄,Cn cx n O J H A T W s->Rep H.n W s.heap u v->(∀s' ρ',dJ cx (Wr T) W H s ρ' H' s'->fK cx T H'.n ρ' s'.heap dI->Q Unit.unit s')->wpAny cx.M A (assignAll u ((assignEach ts T).map (·.2))) Q E s
def dJ.toks(W7)(I:Inv cx W H s):dJ cx W7 W H s W H {s with toks:=k}:=
 dJ.grown W7 I (λU U e=>e) rfl rfl
section
variable {s:Shared}
theorem CK(h:cst c=some v)(I:Inv cx W H s)(a:∀u s',dJ cx fV W H s W H s'->Rep H.n W s'.heap u v->Q u s'):wpAny cx.M A (eval (.Constant c k pos) T) Q E s:=by
 cases c with
 |none=>exact ak (a _ _ (dJ.refl _ I) (bh h▸.none))
 |bool b=>exact ak (a _ _ (dJ.refl _ I) (bh h▸.bool b))
 |int i=>exact λU U t=>a _ _ (dJ.toks _ I) (bh h▸.int _ _)
 |str x=>exact λU U t=>a _ _ (dJ.toks _ I) (bh h▸.str _ _)
 |_=>exact gB h
def O8(h:¬ x=("__debug__":Str)):(x==("__debug__":Str))=false:=by simpa using h
def iZ.kind'(N:iZ cx T O){k:NameKind}(h:O.lookup x=some k)(hk:k≠.free):T.kindOf x=some k:=(N.names x k h).elim id λq=>absurd q.1 hk
theorem s_load(P:eY pe cx)(h:look pe O J x=some v)(N:iZ cx T O)(I:Inv cx W H s)(X:fK cx T H.n W s.heap J)(b:∀u,Rep H.n W s.heap u v->Q u s):wpAny cx.M A (loadName T x) Q E s:=by
 unfold look at h
 split at h
 ·exact gB h
 ·rename_i hd;generalize hk:O.lookup x=k at h
  induction k using Option.casesOn with
  |none=>lia
  |some k=>
   cases k with
   |«local»=>
    obtain⟨m,g,f⟩:=X.ns;have a:=N.kind' hk ();obtain⟨u,e,r⟩:=f x v h a;exact wpAny_loadName_local N.kind a g e (b u r)
   |cell=>
    have a:=N.kind' hk ();obtain⟨c,u,hc,d,r⟩:=X.cell x v h (.inl a);exact wpAny_loadName_cell N.kind a hc d (b u r)
   |free=>
    have a:=N.names x _ hk;obtain⟨c,u,hc,d,r⟩:=X.cell x v h (a.elim .inr λq=>.inl q.2);rcases a with hk|⟨_,hk⟩
    ·exact wpAny_loadName_free N.kind hk hc d (b u r) (bB λq=>hd (.inr q))
    ·exact wpAny_loadName_cell N.kind hk hc d (b u r)
   |globalImplicit=>
    obtain⟨u,r,hl⟩:=P.glob h;rw[loadName_read N.kind (N.kind' hk ())];exact hl N.globals N.builtins I.keep (b u (r _ _ _))
   |_=>lia
def jJ(P:eY pe cx)(h:look pe O J x=some v)(N:iZ cx T O)(I:Inv cx W H s)(X:fK cx T H.n W s.heap J)(a:∀u,Rep H.n W s.heap u v->Q u s):wpAny cx.M A (eval (.Name x pos) T) Q E s:=
 wpAny_Name (s_load P h N I X a) ((by
  unfold look at h
  split at h
  ·exact gB h
  ·rename_i hd;exact O8 λq=>hd (.inl q)))
end
def dR.length(r:dR n W h vs xs):vs.length=xs.length:=by
 induction xs generalizing vs with
 |nil=>cases r;rfl
 |cons x xs ih=>cases r with|cons a b=>simp[ih b]
def dR.append{n W h vs xs ws ys}(a:dR n W h vs xs)(b:dR n W h ws ys):dR n W h (vs++ws) (xs++ys):=
 dR.ind (m:=λvs xs U=>dR n W h (vs++ws) (xs++ys)) b (λa U ih=>.cons a ih) a
def dR.snoc{n W h vs xs v x}(r:dR n W h vs xs)(q:Rep n W h v x):dR n W h (vs++[v]) (xs++[x]):=r.append (.cons q .nil)
def dR.get(r:dR n W h vs xs):∀(i:Nat) {x},xs[i]?=some x->∃v,vs[i]?=some v/\Rep n W h v x:=
 dR.ind (m:=λvs xs U=>∀(i:Nat) {x},xs[i]?=some x->∃v,vs[i]?=some v/\Rep n W h v x) (λU U e=>gB e)
  (λ{v x vs xs} a U ih i=>by
   induction i using Nat.casesOn with
   |zero=>exact λe=>⟨v,rfl,bh e▸a⟩
   |succ i=>exact λe=>ih i e) r
def dR.get'(r:dR n W h vs xs):∀(i:Nat) {v},vs[i]?=some v->∃x,xs[i]?=some x/\Rep n W h v x:=
 dR.ind (m:=λvs xs U=>∀(i:Nat) {v},vs[i]?=some v->∃x,xs[i]?=some x/\Rep n W h v x) (λU U e=>gB e)
  (λ{v x vs xs} a U ih i=>by
   induction i using Nat.casesOn with
   |zero=>exact λe=>⟨x,rfl,bh e▸a⟩
   |succ i=>exact λe=>ih i e) r
def dR.pick(r:dR n W h vs xs)(is:List Nat):dR n W h (is.filterMap (vs[·]?)) (is.filterMap (xs[·]?)):=by
 induction is with
 |nil=>exact .nil
 |cons i is ih=>
  simp only[cL];cases e:xs[i]? with
  |none=>
   have:vs[i]?=none:=by
    rw[List.getElem?_eq_none_iff]at e ⊢;exact r.length▸e
   rw[this];exact ih
  |some x=>
   obtain⟨v,a,q⟩:=r.get i e;exact a▸.cons q ih
def aiU(n:Nat)(W:Nat->Addr)(h:Heap)(v:Value):V->Prop
 |.n=>v=.none
 |.b b=>v=.bool b
 |.i i=>∃t,v=.int i t
 |.s x=>∃t,v=.str x t
 |.t xs=>W6 λa vs k=>v=.ref a/\h.get? a=some {cls:=.type "tuple",data:=.seq vs k}/\dR n W h vs.toList xs
 |.r i=>i<n/\v=.ref (W i)
 |.w i=>i<n/\∃a,v=.ref a/\h.get? a=some {cls:=.type "dict_items",data:=.fields #[.ref (W i)]}
 |.k p x=>p.obj=true/\Ex2 λa w=>v=.ref a/\h.get? a=some {cls:=.type "builtin_function_or_method",data:=.fields #[.builtin p.id,w]}/\Rep n W h w x
 |.m f x=>Ex2 λa w=>v=.ref a/\h.get? a=some {cls:=.type "method",data:=.fields #[.ref f,w]}/\Rep n W h w x
 |.e b=>v=b.val
 |.f a=>v=.ref a
 |.g m=>m<100000/\VD λa t u w=>v=.ref a/\h.get? a=some {cls:=.type "range",data:=.fields #[.int 0 t,.int m u,.int 1 w]}
def Rep.to{n W h v x}(r:Rep n W h v x):aiU n W h v x:=by
 induction r using Rep.casesOn with
 |none=>rfl
 |bool b=>rfl
 |int i t=>exact⟨t,rfl⟩
 |str s t=>exact⟨t,rfl⟩
 |ref i hi=>lia
 |fn a=>lia
 |tup e q=>exact⟨_,_,_,rfl,e,q⟩
 |bm hp e q=>exact⟨hp,_,_,rfl,e,q⟩
 |bf b=>rfl
 |mt e q=>exact⟨_,_,rfl,e,q⟩
 |view hi e=>exact⟨hi,_,rfl,e⟩
 |rng c e=>exact⟨c,_,_,_,_,rfl,e⟩
def Rep.uJ{n W h v}(r:Rep n W h v .n):v=.none:=r.to
def Rep.uK{n W h v b}(r:Rep n W h v (.b b)):v=.bool b:=r.to
def Rep.eN{n W h v i}(r:Rep n W h v (.i i)):∃t,v=.int i t:=r.to
def Rep.dY{n W h v x}(r:Rep n W h v (.s x)):∃t,v=.str x t:=r.to
def Rep.pQ{n W h v xs}(r:Rep n W h v (.t xs)):W6 λa vs k=>v=.ref a/\h.get? a=some {cls:=.type "tuple",data:=.seq vs k}/\dR n W h vs.toList xs:=r.to
def Rep.dX{n W h v i}(r:Rep n W h v (.r i)):i<n/\v=.ref (W i):=r.to
def Rep.uI{n W h v i}(r:Rep n W h v (.w i)):i<n/\∃a,v=.ref a/\h.get? a=some {cls:=.type "dict_items",data:=.fields #[.ref (W i)]}:=r.to
def Rep.ZJ{n W h v p x}(r:Rep n W h v (.k p x)):p.obj=true/\Ex2 λa w=>v=.ref a/\h.get? a=some {cls:=.type "builtin_function_or_method",data:=.fields #[.builtin p.id,w]}/\Rep n W h w x:=r.to
def Rep.ZG{n W h v f x}(r:Rep n W h v (.m f x)):Ex2 λa w=>v=.ref a/\h.get? a=some {cls:=.type "method",data:=.fields #[.ref f,w]}/\Rep n W h w x:=r.to
def Rep.Dv{n W h v b}(r:Rep n W h v (.e b)):v=b.val:=r.to
def Rep.Tr{n W h v m}(r:Rep n W h v (.g m)):m<100000/\VD λa t u w=>v=.ref a/\h.get? a=some {cls:=.type "range",data:=.fields #[.int 0 t,.int m u,.int 1 w]}:=r.to
def Rep.Du{n W h v a}(r:Rep n W h v (.f a)):v=.ref a:=r.to
def o7:lim=sizeLine:=by rfl
def Inv.list(I:Inv cx W H s)(hi:i<H.n)(e:H.f i=.l xs):Ex2 λvs k=>s.heap.get? (W i)=some {cls:=.type "list",data:=.seq vs k}/\dR H.n W s.heap vs.toList xs:=by
 have:=I.objs i hi;rw[e]at this;exact this
def Inv.dict(I:Inv cx W H s)(hi:i<H.n)(e:H.f i=.d kvs):∃ps:List (Str×Value),s.heap.DictOf (strKind cx.prog cx.w) (W i) ps/\ps.map (·.1)=kvs.map (·.1)/\dR H.n W s.heap (ps.map (·.2)) (kvs.map (·.2)):=by
 have:=I.objs i hi;rw[e]at this;exact this
def d8{h:Heap}{vs:Array Value}(e:h.get? a=some {cls:=.type "list",data:=.seq vs k}):h.IsList a vs:=⟨_,e,rfl,k,rfl⟩
def size_of{vs:Array Value}(r:dR n W h vs.toList xs):vs.size=xs.length:=(bQ).symm▸r.length
def Inv.kj(I:Inv cx W H s)(_:iQ cx)(hi:i<H.n):(W i==sysModules)=false:=by
 simp;exact I.Dd i hi
def isEmpty_eq{α a:Type}{l:List α}{m:List a}(h:l.length=m.length):l.isEmpty=m.isEmpty:=by
 cases l <;> cases m <;> simp_all
def rJ{α a:Type}{l:Array α}{m:List a}(h:l.size=m.length):l.isEmpty=m.isEmpty:=by
 induction m using List.casesOn with
 |nil=>simp at h;simp[h]
 |cons x m=>
  have:l.size≠0:=by rw[h];simp
  simpa [Array.isEmpty]using this
def map_len{α a b:Type}{l:List α}{m:List a}{f:α->b}{g:a->b}(h:l.map f=m.map g):l.length=m.length:=by
 have:=congrArg List.length h
 rwa [aB,aB]at this
section
variable {s:Shared}
def fU[Decidable c]{α:Type}{a b:α}(h:(if c then some a else none)=some b):c/\a=b:=by
 by_cases hc:c
 ·rw[if_pos hc]at h;exact⟨hc,bh h⟩
 ·lia
def sH(h:k<=lim):(k:Int)<2 ^ 63:=by unfold lim at h;lia
def pN{y:Int}(h:0<y/\y<2 ^ 30):y.natAbs<2 ^ 30:=Int.natAbs_lt_natAbs_of_nonneg_of_lt (Int.le_of_lt h.1) h.2
def Zq(x:Nat):((x:Int) !=0)=(x !=0):=by cases x <;> rfl
theorem xH{u:Value}(a:iQ cx)(h:truth H v=some b)(I:Inv cx W H s)(r:Rep H.n W s.heap u v)(g:∀s',dJ cx fV W H s W H s'->Q b s'):wpAny cx.M A (truthy u) Q E s:=by
 have fin:∀{x s'},x=b->dJ cx fV W H s W H s'->Q x s':=λe S=>e▸g _ S
 induction r using Rep.casesOn with
 |none=>exact λU U U=>fin (bh h) (dJ.refl _ I)
 |bool c=>exact wpAny_truthy_bool (fin (bh h) (dJ.refl _ I))
 |int i t=>exact P.truthy_int (fin (bh h) (dJ.refl _ I))
 |str x t=>
  have h:=fU h;exact P.truthy_str (Int.not_le.mpr (sH h.1)) (Zq _▸fin h.2 (dJ.toks _ I))
 |tup e q=>
  have h:=fU h;exact truthy_tuple ⟨_,e,rfl,_,rfl⟩ (sH (size_of q▸h.1)) (rJ (size_of q)▸fin h.2 (dJ.toks _ I))
 |ref i hi=>
  have h:w6 (H.f i)=some b:=h;generalize hf:H.f i=o at h;cases o with
  |l xs=>
   have h:=fU h;obtain⟨vs,k,e,q⟩:=I.list hi hf;exact wpAny_truthy_list (d8 e) (sH (size_of q▸h.1)) (rJ (size_of q)▸fin h.2 (dJ.toks _ I))
  |d kvs=>
   have h:=fU h;obtain⟨ps,e,j,q⟩:=I.dict hi hf;have hz:=map_len j;exact wpAny_truthy_dict (I.kj a hi) e (sH (hz▸h.1)) (isEmpty_eq hz▸fin h.2 (dJ.toks _ I))
  |_=>exact gB h
 |_=>exact gB h
def dJ.newList{vs:Array Value}(I:Inv cx W H s)(r:dR H.n W s.heap vs.toList xs):dJ cx fV W H s (λj=>if j=H.n then s.heap.objs.size else W j) (H.alloc (.l xs)) {s with heap:=s.heap.push {cls:=.type "list",data:=.seq vs}}:=by
 refine dJ.new _ I (fC _) I.Ij (λU U e=>aq _ e) ⟨vs,0,bR _ rfl,r.mono ⟨cF _,λi hi=>if_neg (aY hi),λa o e U=>aq _ e⟩⟩ rfl rfl
def gq:Rep (n+1) (λj=>if j=n then a else W j) h (.ref a) (.r n):=by
 have:=Rep.ref (W:=λj=>if j=n then a else W j) (h:=h) n (aN n)
 rwa [if_pos rfl]at this
def HN(I:Inv cx W H s)(r:dR H.n W s.heap vs xs)(hl:xs.length<=lim)(a:∀v s' ρ',dJ cx fV W H s ρ' (H.alloc (.l xs)) s'->Rep (H.n+1) ρ' s'.heap v (.r H.n)->Q v s'):wpAny cx.M A (newList vs) Q E s:=by
 refine wpAny_newObj_type (a _ _ _ (dJ.newList I ()) gq) ?_;show vs.toArray.size<=sizeLine;rw[cg,r.length];exact hl
def CG(I:Inv cx W H s)(r:dR H.n W s.heap vs xs)(hl:xs.length<=lim)(b:∀v s',dJ cx fV W H s W H s'->Rep H.n W s'.heap v (.t xs)->Q v s'):wpAny cx.M A (newTuple vs) Q E s:=by
 refine wpAny_newObj_type (b _ _ (dJ.grown _ I (λU U e=>aq _ e) rfl rfl) (.tup (bR _ rfl) ?_)) ?_
 refine dR.mono ⟨bT _,λU U=>rfl,λa o e U=>aq _ e⟩ ()
 show vs.toArray.size<=sizeLine;rw[cg,r.length];exact hl
end
structure tB (H:Hp) (op:Operator) (a b x:V) (H':Hp):Prop where
 go:∀{cx:Cx} {A:Around} {s:Shared} {W:Nat->Addr} {E:Value->Shared->Prop} {u v:Value} {Q:Value->Shared->Prop},Inv cx W H s->Rep H.n W s.heap u a->Rep H.n W s.heap v b->(∀v s' ρ',dJ cx fV W H s ρ' H' s'->Rep H'.n ρ' s'.heap v x->Q v s')->wpAny cx.M A (binaryOp op u v) Q E s
 aug:Bu a=true->∀{cx:Cx} {A:Around} {s:Shared} {W:Nat->Addr} {E:Value->Shared->Prop} {u v:Value} {Q:Value->Shared->Prop},Inv cx W H s->Rep H.n W s.heap u a->Rep H.n W s.heap v b->(∀w s',dJ cx fV W H s W H' s'->Rep H'.n W s'.heap w x->Q w s')->wpAny cx.M A (inplaceOp op u v) Q E s
theorem tB.afR(hl:x.length+y.length<=lim):tB H .Add (.s x) (.s y) (.s (x++y)) H where
 go:=λI c b a=>by
  obtain⟨t,rfl⟩:=c.dY;obtain⟨d,rfl⟩:=b.dY;exact SB.add (λd k=>a _ _ _ (dJ.toks _ I) (.str _ _)) ()
 aug:=λ_ {cx A s W E u v Q} I c b a=>by
  obtain⟨t,rfl⟩:=c.dY;obtain⟨d,rfl⟩:=b.dY;exact SB.iadd (λd k=>a _ _ (dJ.toks _ I) (.str _ _)) ()
theorem tB.aiS{x y:Int}:tB H .Add (.i x) (.i y) (.i (x+y)) H where
 go:=λI b a c=>by
  obtain⟨t,rfl⟩:=b.eN;obtain⟨d,rfl⟩:=a.eN;exact wpAny_add_int (c _ _ _ (dJ.toks _ I) (.int _ _))
 aug:=λ_ {cx A s W E u v Q} I b a c=>by
  obtain⟨t,rfl⟩:=b.eN;obtain⟨d,rfl⟩:=a.eN;exact AutoIntOps.iadd_0 (c _ _ (dJ.toks _ I) (.int _ _))
theorem tB.agC{x y:Int}:tB H .Sub (.i x) (.i y) (.i (x-y)) H where
 go:=λI b a c=>by
  obtain⟨t,rfl⟩:=b.eN;obtain⟨d,rfl⟩:=a.eN;exact P.sub_int (c _ _ _ (dJ.toks _ I) (.int _ _))
 aug:=λ_ {cx A s W E u v Q} I b a c=>by
  obtain⟨t,rfl⟩:=b.eN;obtain⟨d,rfl⟩:=a.eN;exact AutoIntOps.isub_0 (c _ _ (dJ.toks _ I) (.int _ _))
theorem tB.aiy{x y:Int}(hl:0<y/\y<2 ^ 30):tB H .FloorDiv (.i x) (.i y) (.i (x/y)) H where
 go:=λI c b a=>by
  obtain⟨t,rfl⟩:=c.eN;obtain⟨d,rfl⟩:=b.eN;exact floordiv_int (Int.ne_of_gt hl.1) (Int.fdiv_eq_ediv_of_nonneg _ (Int.le_of_lt hl.1)▸a _ _ _ (dJ.toks _ I) (.int _ _)) (.inl (PyProof.noPylong_small (pN hl)))
 aug:=λ_ {cx A s W E u v Q} I c b a=>by
  obtain⟨t,rfl⟩:=c.eN;obtain⟨d,rfl⟩:=b.eN;exact AutoIntOps.ifloordiv_1 (by simp;lia) (by rw[PyProof.noPylong_small (pN hl)];simp) (Int.fdiv_eq_ediv_of_nonneg _ (Int.le_of_lt hl.1)▸a _ _ (dJ.toks _ I) (.int _ _))
theorem tB.ahp{x y:Int}(hl:0<y/\y<2 ^ 30):tB H .Mod (.i x) (.i y) (.i (x % y)) H where
 go:=λI c b a=>by
  obtain⟨t,rfl⟩:=c.eN;obtain⟨d,rfl⟩:=b.eN;exact mod_int' (Int.ne_of_gt hl.1) (Int.fmod_eq_emod_of_nonneg _ (Int.le_of_lt hl.1)▸a _ _ _ (dJ.toks _ I) (.int _ _))
 aug:=λ_ {cx A s W E u v Q} I c b a=>by
  obtain⟨t,rfl⟩:=c.eN;obtain⟨d,rfl⟩:=b.eN;exact AutoIntOps.imod_1 (by simp;lia) (Int.fmod_eq_emod_of_nonneg _ (Int.le_of_lt hl.1)▸a _ _ (dJ.toks _ I) (.int _ _))
theorem tB.iG(hi:H.f i=.l xs)(o:H.f j=.l ys)(hl:xs.length+ys.length<=lim)(e:H.alloc (.l (xs++ys))=H'):tB H .Add (.r i) (.r j) (.r H.n) H' where
 go:=λI m d s=>by
  refine jm m.dX λc=>jm d.dX λg=>?_;obtain⟨vs,k,b,q⟩:=I.list c hi;obtain⟨ws,t,p,a⟩:=I.list g o;subst e;exact P.add_list b p (s _ _ _ (dJ.newList I (by rw[Array.toList_append];exact q.append a)) gq) (by rw[size_of q,size_of a];exact hl)
 aug:=iC
theorem tB.ag7{y:Int}(hl:0<=y/\y<20):tB H .Pow (.i 2) (.i y) (.i (2 ^ y.toNat)) H where
 go:=λI c b a=>by
  obtain⟨t,rfl⟩:=c.eN;obtain⟨e,rfl⟩:=b.eN;refine pow_int hl.1 ?_ (a _ _ _ (dJ.toks _ I) (.int _ _));have d:Builtin.Int.intBits 2=2:=by rfl
  rw[d];lia
 aug:=λ_ {cx A s W E u v Q} I c b a=>by
  obtain⟨t,rfl⟩:=c.eN;obtain⟨e,rfl⟩:=b.eN;by_cases h0:y=0
  subst h0;exact AutoIntOps.ipow_0 () rfl (a _ _ (dJ.toks _ I) (.int _ _))
  have d:Builtin.Int.intBits 2=2:=by rfl
  exact AutoIntOps.ipow_4 hl.1 (by simpa using h0) () () (by
   rw[d];refine λq=>absurd (of_decide_eq_true q) ?_;have f:(bitsLine:Int)>=100:=by decide+kernel
   lia) (a _ _ (dJ.toks _ I) (.int _ _))
section
variable {s:Shared}
def kI{h:Heap}{vs:Array Value}(e:h.get? a=some {cls:=.type "tuple",data:=.seq vs k}):h.IsTuple a vs:=⟨_,e,rfl,k,rfl⟩
def map_some{α c:Type}{f:α->c}{o:Option α}{b:c}(h:o.map f=some b):∃a,o=some a/\f a=b:=Option.map_eq_some_iff.mp h
theorem j6:∀{l:List Str} {vs:List Value},strsOf xs=some l->dR n W h vs xs->∃ts:List (Str×Tok),ts.map (·.1)=l/\vs=ts.map λp=>Value.str p.1 p.2:=by
 induction xs with
 |nil=>intro l vs e r;cases r;exact⟨[],bh e,rfl⟩
 |cons x xs ih=>
  intro l vs e r
  cases r with|cons a b=>
  cases x with
  |s x=>
   obtain⟨l',c,rfl⟩:=map_some e;obtain⟨ts,rfl,rfl⟩:=ih c b;obtain⟨t,rfl⟩:=a.dY;exact⟨(x,t)::ts,rfl,rfl⟩
  |_=>exact gB e
def Bs:∀{l:List Bool} {vs:List Value},boolsOf xs=some l->dR n W h vs xs->vs=l.map Value.bool:=by
 induction xs with
 |nil=>intro l vs e r;cases r;cases e;rfl
 |cons x xs ih=>
  intro l vs e r
  cases r with|cons a b=>
  cases x with
  |b x=>
   obtain⟨l',c,rfl⟩:=map_some e;rw[a.uK,ih c b];rfl
  |_=>exact gB e
def tC{ps:List (Str×Value)}:(valueAt ps x).isSome=(ps.map (·.1)).contains x:=by
 unfold valueAt
 induction ps with
 |nil=>rfl
 |cons p ps ih=>
  rw[List.find?_cons,cC,List.contains_cons];by_cases h:p.1=x
  ·simp[h]
  ·have h':(x==p.1)=false:=by simpa using λe=>h e.symm
   simp only[h,decide_false,h'];exact ih
def jL(x:Str)(t:Tok):(strKind cx.prog cx.w).is x (.str x t)=true:=by simp[PySem.strKind,Value.isStrOf]
theorem in_list(a:Bool){v:Value}(e:Value->Bool)(hi:i<H.n)(hf:H.f i=.l xs)(I:Inv cx W H s)(h:∀vs:List Value,dR H.n W s.heap vs xs->(∀y∈vs,EqAt A.in1 s y v (e y))/\vs.any e=l) (c:Q (.bool (if a then !l else l)) s):wpAny cx.M A (compareOp (if a then .NotIn else .In) v (.ref (W i))) Q E s:=by
 obtain⟨vs,k,ho,q⟩:=I.list hi hf;obtain⟨h1,d⟩:=h _ q;have b:=λy g=>h1 y (Array.mem_toList_iff.mpr g);have hk:vs.any e=l:=by rw[<- Array.any_toList];exact d
 cases a
 exact in_listAt _ (d8 ho) b (hk▸c)
 exact notIn_listAt _ (d8 ho) b (hk▸c)
noncomputable def strEq(x:Str):Value->Bool
 |.str z _=>z==x
 |_=>false
noncomputable def Py(x:Bool):Value->Bool
 |.bool z=>z==x
 |_=>false
def any_bools(x:Bool)(l:List Bool):(l.map Value.bool).any (Py x)=l.contains x:=by
 rw[List.any_map,List.contains_eq_any_beq];congr 1;funext p;cases p <;> cases x <;> rfl
structure Jq (H:Hp) (a b:V) (r:Bool):Prop where
 go:∀(neg:Bool) {cx:Cx} {A:Around} {s:Shared} {W:Nat->Addr} {E:Value->Shared->Prop} {u v:Value} {Q:Value->Shared->Prop},iQ cx->Inv cx W H s->Rep H.n W s.heap u a->Rep H.n W s.heap v b->(∀s',dJ cx fV W H s W H s'->Q (.bool (if neg then !r else r)) s')->wpAny cx.M A (compareOp (if neg then .NotIn else .In) u v) Q E s
def Jq.str:Jq H (.s x) (.s y) (Txt.contains y x):=⟨λneg {cx A s W E u v Q} hg I ra rb hQ=>by
 obtain⟨t,rfl⟩:=ra.dY;obtain⟨a,rfl⟩:=rb.dY;cases neg
 exact SB.contains (hQ _ (dJ.refl _ I))
 exact SB.notContains (hQ _ (dJ.refl _ I))⟩
def Jq.set(hf:H.f i=.e ks):Jq H (.s x) (.r i) (ks.contains x):=⟨λneg {cx A s W E u v Q} hg I ra rb hQ=>by
 obtain⟨t,rfl⟩:=ra.dY;obtain⟨hi,rfl⟩:=rb.dX;have a:=I.objs _ hi;rw[hf]at a;cases neg
 exact wpAny_inSet_of (jL _ t) rfl a.1.set (hQ _ (dJ.toks _ I))
 exact wpAny_notInSet_of (jL _ t) rfl a.1.set (hQ _ (dJ.toks _ I))⟩
def Jq.dict(hf:H.f i=.d kvs):Jq H (.s x) (.r i) ((kvs.map (·.1)).contains x):=⟨λneg {cx A s W E u v Q} hg I ra rb hQ=>by
 obtain⟨t,rfl⟩:=ra.dY;obtain⟨hi,rfl⟩:=rb.dX;obtain⟨ps,e,a,q⟩:=I.dict hi hf;rw[<- a,<- tC]at hQ;cases neg
 exact wpAny_in_of (jL _ t) (I.kj hg hi) e.mapOf (hQ _ (dJ.toks _ I))
 exact wpAny_notIn_of (jL _ t) (I.kj hg hi) e.mapOf (hQ _ (dJ.toks _ I))⟩
theorem Jq.ahB(hf:H.f i=.l xs)(hl:strsOf xs=some l):Jq H (.s x) (.r i) (l.contains x):=⟨λneg {cx A s W E u v Q} hg I ra rb hQ=>by
 obtain⟨t,rfl⟩:=ra.dY;obtain⟨hi,rfl⟩:=rb.dX;refine in_list neg (strEq x) hi hf I (λvs q=>?_) (hQ _ (dJ.refl _ I));obtain⟨ts,rfl,rfl⟩:=j6 hl q;refine⟨λy a=>?_,(by
  rw[List.any_map,List.contains_eq_any_beq,List.any_map];congr 1;funext p;exact Bool.beq_comm)⟩;obtain⟨p,_,rfl⟩:=aF a;exact .str_str _ _ _ _⟩
def Jq.adT(hf:H.f i=.l xs)(hl:boolsOf xs=some l):Jq H (.b x) (.r i) (l.contains x):=⟨λneg {cx A s W E u v Q} hg I ra rb hQ=>by
 cases ra.uK;obtain⟨hi,rfl⟩:=rb.dX;refine in_list neg (Py x) hi hf I (λvs q=>?_) (hQ _ (dJ.refl _ I));cases Bs hl q;refine⟨λy a=>?_,any_bools _ _⟩;obtain⟨p,_,rfl⟩:=aF a;exact .bool_bool _ _⟩
def rI{α:Type}(l:List α):l.isEmpty=(l.length==0):=by cases l <;> rfl
def Rep.Lj{n W h v x}(r:Rep n W h v x):(isNone x=true/\v=.none)\/(isNone x=false/\v≠.none):=by
 induction r using Rep.casesOn with
 |none=>exact .inl ⟨rfl,rfl⟩
 |bf b=>exact .inr ⟨rfl,by obtain⟨t,n,_⟩:=b;cases t <;> exact nofun⟩
 |_=>exact .inr ⟨rfl,nofun⟩
structure Qv (H:Hp) (a b:V) (r:Bool):Prop where
 go:∀(neg:Bool) {cx:Cx} {A:Around} {s:Shared} {W:Nat->Addr} {E:Value->Shared->Prop} {u v:Value} {Q:Value->Shared->Prop},iQ cx->A.units+20<cLine->Inv cx W H s->Rep H.n W s.heap u a->Rep H.n W s.heap v b->Q (.bool (if neg then !r else r)) s->wpAny cx.M A (compareOp (if neg then .NotEq else .Eq) u v) Q E s
def Qv.str:Qv H (.s x) (.s y) (x==y):=⟨λneg {cx A s W E u v Q} hg hu I ra rb hQ=>by
 obtain⟨t,rfl⟩:=ra.dY;obtain⟨a,rfl⟩:=rb.dY;cases neg
 exact(RcAt.str_str _ _ _ _) _ _ _ _ hQ
 exact(RcNeAt.str_str _ _ _ _) _ _ _ _ hQ⟩
def Qv.int{x y:Int}:Qv H (.i x) (.i y) (x==y):=⟨λneg {cx A s W E u v Q} hg hu I ra rb hQ=>by
 obtain⟨t,rfl⟩:=ra.eN;obtain⟨a,rfl⟩:=rb.eN;cases neg
 exact(RcAt.int_int _ _ _ _) _ _ _ _ hQ
 exact(RcNeAt.int_int _ _ _ _) _ _ _ _ hQ⟩
theorem Qv.adP(hi:H.f i=.l xs)(p:H.f j=.l []):Qv H (.r i) (.r j) xs.isEmpty:=⟨λneg {cx A s W E u v Q} hg hu I ra rb hQ=>by
 obtain⟨n,rfl⟩:=ra.dX;obtain⟨o,rfl⟩:=rb.dX;obtain⟨vs,k,e,q⟩:=I.list n hi;obtain⟨ws,y,d,t⟩:=I.list o p;have a:=aU (Nat.le_add_right _ _) hu;have b:ws.size=0:=size_of t;have hz:=size_of q;by_cases h0:vs.size=0
 ·have r:(List.range vs.size).all (λU=>false)=xs.isEmpty:=by rw[rI,<- hz,h0];rfl
  have f:∀(j:Nat) _ (x:j<ws.size),EqAt A.in1 s vs[j] ws[j] ((λU=>false) j):=λj h=>absurd h (by rw[h0];exact Nat.not_lt_zero j);have g:=RcAt.lists (d8 e) (d8 d) (h0.trans b.symm) a f;have m:=RcNeAt.lists (d8 e) (d8 d) (h0.trans b.symm) a f;rw[r]at g m;cases neg
  ·exact g _ _ _ _ hQ
  ·exact m _ _ _ _ hQ
 ·have c:(vs.size !=ws.size)=true:=bne_iff_ne.mpr (by rw[b];exact h0);rw[((rI _).trans (bB (hz▸h0)))]at hQ;cases neg
  ·exact RcAt.lists_lengths (d8 e) (d8 d) c a _ _ _ _ hQ
  ·exact RcNeAt.lists_lengths (d8 e) (d8 d) c a _ _ _ _ hQ⟩
structure Fe (H:Hp) (op:CmpOp) (a b:V) (r:Bool):Prop where
 go:∀{cx:Cx} {A:Around} {s:Shared} {W:Nat->Addr} {E:Value->Shared->Prop} {u v:Value} {Q:Value->Shared->Prop},iQ cx->A.units+20<cLine->Inv cx W H s->Rep H.n W s.heap u a->Rep H.n W s.heap v b->(∀s',dJ cx fV W H s W H s'->Q (.bool r) s')->wpAny cx.M A (compareOp op u v) Q E s
def Fe.eq{a b:V}{r:Bool}(h:Qv H a b r):Fe H .Eq a b r:=⟨λ{cx A s W E u v Q} hg hu I ra rb hQ=>by
 exact h.go false hg hu I ra rb (hQ _ (dJ.refl _ I))⟩
def Fe.ne{a b:V}{r:Bool}(h:Qv H a b r):Fe H .NotEq a b (!r):=⟨λ{cx A s W E u v Q} hg hu I ra rb hQ=>by
 exact h.go true hg hu I ra rb (hQ _ (dJ.refl _ I))⟩
def Fe.is:Fe H .Is a .n (isNone a):=⟨λ{cx A s W E u v Q} hg hu I ra rb hQ=>by
 have q:=hQ _ (dJ.refl _ I);cases rb.uJ;rcases ra.Lj with⟨e,rfl⟩|⟨e,b⟩ <;> rw[e]at q
 exact wpAny_is_self rfl q
 exact is_none_ne b q⟩
def Fe.ahL:Fe H .IsNot a .n (!isNone a):=⟨λ{cx A s W E u v Q} hg hu I ra rb hQ=>by
 have q:=hQ _ (dJ.refl _ I);cases rb.uJ;rcases ra.Lj with⟨e,rfl⟩|⟨e,b⟩ <;> rw[e]at q
 exact wpAny_isNot_self rfl q
 exact isnot_none_ne b q⟩
def Fe.inn{a b:V}{r:Bool}(h:Jq H a b r):Fe H .In a b r:=⟨λ{cx A s W E u v Q} hg hu I ra rb hQ=>by
 exact h.go false hg I ra rb hQ⟩
def Fe.nin{a b:V}{r:Bool}(h:Jq H a b r):Fe H .NotIn a b (!r):=⟨λ{cx A s W E u v Q} hg hu I ra rb hQ=>by
 exact h.go true hg I ra rb hQ⟩
end
section
variable {pe:Pe} {n:Nat} {H2:Hp} {u w x:V} {a b c:Expr} {p:Pos} {t:Bool}
def Cn.units(C:Cn cx (n+1) O J H A T W s):A.units+20<cLine:=aM (aU (cM () _) C.ar.units) ()
def wpAny_IfExp(h:wpAny M A (isTrue c T (eval c T)) (λt d=>wpAny M A (eval (bif t then a else b) T) Q E d) E s):wpAny M A (eval (.IfExp c a b p) T) Q E s:=by
 refine aj (bG h (λt d h₁=>?_) λU U e=>e);cases t <;> exact h₁
def n7{k:Const}(h:cst k=some v):GE cx (n+1) O J (.Constant k j p) H v H:=λU U U U U U C a=>CK h C.inv λu s' S q=>a u s' _ S q
def iJ(P:eY pe cx){x:Str}(h:look pe O J x=some v):GE cx (n+1) O J (.Name x p) H v H:=λU U U U U U C a=>jJ P h C.en C.inv C.vars λu q=>a u _ _ (dJ.refl _ C.inv) q
def WX(h1:GE cx n O J a H u H1)(f:GE cx n O J b H1 w H2)(h3:tB H2 op u w v H3):GE cx (n+1) O J (.BinOp a op b p) H v H3:=λU U U U U U C j=>
 wpAny_BinOp (h1 C.low λU U U d r1=>f (C.low.step d) λU U U c h=>h3.go c.inv (c.rep d.inv r1) h λw s3 e g i=>j w s3 e ((d.trans c).trans g) i)
def xU(h:gA b=false):behindInMarks op b=false:=by
 cases b <;> first|rfl|contradiction
def abK(P:eY pe cx)(g:gA b=false)(h1:GE cx n O J a H u H1)(e:GE cx n O J b H1 w H2)(h3:Fe H2 op u w t):GT cx (n+1) O J (.Compare a [op] [b] p) H t H2:=λU U U U U U C i=>
 wpAny_isTrue_Compare1 (h1 C.low λU U U d r1=>e (C.low.step d) λU U U c f=>h3.go P.sys C.units c.inv (c.rep d.inv r1) f λs3 h=>wpAny_truthy_bool (i s3 _ ((d.trans c).trans h))) (xU g)
theorem WW{k:Int}(h1:GE cx n O J a H (.i k) H1):GE cx (n+1) O J (.UnaryOp .USub a p) H (.i (-k)) H1:=λU U U U U U C c=>by
 refine aj (h1 C.low λU U U b r1=>aj (aW (ao ?_)));obtain⟨t,rfl⟩:=r1.eN;exact P.neg_int (c _ _ _ (b.trans (dJ.toks _ b.inv)) (.int _ _))
def VR(h1:GT cx n O J a H t H1):GT cx (n+1) O J (.UnaryOp .Not a p) H (!t) H1:=λU U U U U U C b=>by
 exact aj (h1 C.low λU U c=>ak (b _ _ c))
def isTrue_plain(h:plainT a=true)(m:Sem Value):isTrue a T m=(do let v <- m;standAt a.pos;holding [v] (truthy v)):=by
 cases a with
 |UnaryOp op x q=>cases op <;> first|rfl|contradiction
 |_=>lia
def V0(P:eY pe cx)(hp:plainT a=true)(h1:GE cx n O J a H u H1)(c:truth H1 u=some t):GT cx (n+1) O J a H t H1:=λU U U U U U C d=>by
 rw[isTrue_plain hp];exact aj (h1 C.low λU U U b r1=>aj (aW (ao (xH P.sys c b.inv r1 λs2 e=>d s2 _ (b.trans e)))))
theorem Hj:boolOp pos op (evalEach (a::b::es) T)=(do
   let v <- eval a T
   standAt pos
   let t <- holding [v] (truthy v)
   bif t==(op==.Or)then pure v else boolOp pos op (evalEach (b::es) T)):=by
 show(do let v <- eval a T;standAt pos;let t <- holding [v] _;match op,t with|.And,false|.Or,true=>pure v|_,_=>boolOp pos op _)=_;congr;funext v;congr;funext _;congr;funext t;cases op <;> cases t <;> rfl
def aaQ(P:eY pe cx)(h1:GE cx n O J a H v H1)(e:truth H1 v=some t)(h3:(t==(op==.Or))=true):GBo cx n O J op (a::b::es) H v H1:=λU U U U U U U C f=>by
 rw[Hj];refine aj (h1 C λU U U c r1=>aj (aW (aj (ao (xH P.sys e c.inv r1 λs2 d=>?_)))));rw[h3];exact ak (f _ _ _ (c.trans d) (d.rep c.inv r1))
def aiM(P:eY pe cx)(h1:GE cx n O J a H v H1)(e:truth H1 v=some t)(h3:(t==(op==.Or))=false)(h:GBo cx n O J op (b::es) H1 w H2):GBo cx n O J op (a::b::es) H w H2:=λU U U U U U U C i=>by
 rw[Hj];refine aj (h1 C λU U U c r1=>aj (aW (aj (ao (xH P.sys e c.inv r1 λs2 d=>?_)))));rw[h3];exact h ((C.step c).step d) λv s' ρ' f g=>i v s' ρ' ((c.trans d).trans f) g
def Fq:allTrue op (a::es) T=(do let t <- isTrue a T (eval a T);bif t==(op==.Or)then pure t else allTrue op es T):=by
 rw[arm_allTrue_cons];congr;funext t;cases op <;> cases t <;> rfl
def QJ(h1:GT cx n O J a H t H1)(h3:(t==(op==.Or))=true):GTs cx n O J op (a::es) H t H1:=λU U U U U U C b=>by
 rw[Fq];refine aj (h1 C λU U c=>?_);rw[h3];exact ak (b _ _ c)
def abF{r:Bool}(h1:GT cx n O J a H t H1)(h3:(t==(op==.Or))=false)(c:GTs cx n O J op es H1 r H2):GTs cx n O J op (a::es) H r H2:=λU U U U U U C e=>by
 rw[Fq];refine aj (h1 C λU U b=>?_);rw[h3];exact c (C.step b) λs' ρ' d=>e s' ρ' (b.trans d)
def yu:zf cx n O J [] H true H:=λU U U U U U C a=>ak (a _ _ (dJ.refl _ C.inv))
theorem q9(h:Q false s):∀(ifs:List Expr),
  wpAny cx.M A (forIn ifs false λc r=>if r=true then do let ok <- isTrue c T (eval c T);pure (ForInStep.yield ok)else pure (ForInStep.yield r)) Q E s
 |[]=>ak h
 |c::cs=>by
  rw[List.forIn_cons];exact aj (ak (q9 h cs))
def NP(h1:GT cx n O J c H false H1):zf cx n O J (c::cs) H false H1:=λU U U U U U C a=>by
 rw[List.forIn_cons];exact aj (aj (h1 C λs1 gw b=>ak (q9 (a s1 gw b) cs)))
def T4(h1:GT cx n O J c H true H1)(b:zf cx n O J cs H1 t H2):zf cx n O J (c::cs) H t H2:=λU U U U U U C d=>by
 rw[List.forIn_cons];exact aj (aj (h1 C λs1 gw a=>ak (b (C.step a) λs2 je e=>d s2 je (a.trans e))))
end
def lD{m:Sem α}{Q:α->Shared->Prop}(h:wpAny M A m Q E s):wpAny M A (m.keep vs) Q E s:=
 λa p hΓ=>by rw[Sem.wp_keep];exact h a p hΓ
def Kpr(cx:Cx)(fv:Value)(s:Shared):Prop:=∀{A:Around} {Q:Keeper->Shared->Prop} {E:Value->Shared->Prop},(∀k,Q k s)->wpAny cx.M A (keeperOf fv) Q E s
def Cd{Q:α->Shared->Prop}[Decidable p]{x m:Sem α}(a:wpAny M A x Q E s)(b:wpAny M A m Q E s):wpAny M A (if p then x else m) Q E s:=by
 by_cases h:p
 lia
 lia
theorem jy{args:List (Bool×Sem Value)}{kws:List (Option Str×Sem Value)}(h:wpAny cx.M A (evalArgs fv true args kws) (λa d=>Kpr cx fv d/\wpAny cx.M A (call fv (first++a.pos) a.kw) Q E d) E s):wpAny cx.M A (callWith pos fv first args kws) Q E s:=by
 refine aj (ao (bG h (λa d h₁=>(aj (aW (aj (h₁.1 λk=>?_))))) λU U e=>e));have fin:∀(v:Value) (s₂:Shared),Q v s₂->wpAny cx.M A (do holding [v] point;pure v) Q E s₂:=λv s₂ f=>aj (ao (wpAny_point (ak f)));have c:=bG h₁.2 fin λU U e=>e;generalize (args.any (·.1)||kws.any _)=b
 cases k <;> cases b <;> first|exact aj c|exact aj (lD c)|exact aj (wpAny_operate' c)|exact Cd (aj c) (aj (lD c))
section
variable {pe:Pe} {n:Nat} {H2:Hp} {u:V} {a:Expr} {es:List Expr} {ks:List Keyword}
def jg(h:isStar e=false):starEach (e::es) T=(false,eval e T)::starEach es T:=by
 cases e <;> first|rfl|contradiction
def wG:GL cx n O J [] H [] H:=⟨λU U=>rfl,λU=>.inl ⟨rfl,rfl,rfl⟩,λU U U U U U U C a=>Calls.spliced_nil (a _ _ _ (dJ.refl _ C.inv) .nil)⟩
def m7(b:isStar a=false)(h1:GE cx n O J a H u H1)(d:GL cx n O J es H1 xs H2):GL cx n O J (a::es) H (u::xs) H2:=by
 refine⟨λpos T=>?_,λT=>.inr ⟨_,_,rfl,jg b⟩,λA T W s pos Q E C g=>?_⟩
 rw[jg b];exact d.1 pos T
 rw[jg b];exact Calls.spliced_cons (h1 C λU U U c r1=>d.2.2 (C.step c) λvs s2 je e f=>g _ _ _ (c.trans e) (.cons (e.rep c.inv r1) f))
def Aq:Qu cx n O J [] H [] H:=⟨λU U=>⟨rfl,rfl⟩,λU U U U U U U C a=>ak (a _ _ _ (dJ.refl _ C.inv) .nil)⟩
def ZD{k:Str}(h1:GE cx n O J a H u H1)(b:Qu cx n O J ks H1 kx H2):Qu cx n O J (⟨some k,a,p⟩::ks) H ((k,u)::kx) H2:=by
 refine⟨λpos T=>⟨((b.1 pos T).1),?_⟩,λA T W s pos Q E C f=>?_⟩
 show k::(backToKw pos _).filterMap (·.1)=_;rw[(b.1 pos T).2];rfl
 exact aj (aj (h1 C λU U U c r1=>aj (aW (ak (aj (ao (b.2 (C.step c) λvs s2 je d e=>ak (f _ _ _ (c.trans d) (.cons (d.rep c.inv r1) e)))))))))
def Fg{α a:Type}:∀{l:List α} {m:List a},l.length=m.length->(l.zip m).map (·.1)=l:=λh=>List.map_fst_zip (Nat.le_of_eq h)
def Qw{α a:Type}:∀{l:List α} {m:List a},l.length=m.length->(l.zip m).map (·.2)=m:=λh=>List.map_snd_zip (Nat.le_of_eq h.symm)
theorem uR(h1:GL cx n O J es H xs H1)(i:Qu cx n O J ks H1 kx H2)(C:Cn cx n O J H A T W s)(o:∀a s' ρ',dJ cx fV W H s ρ' H2 s'->dR H2.n ρ' s'.heap a.pos xs->Ey H2.n ρ' s'.heap a.kw kx->Q a s'):wpAny cx.M A (evalArgs f true (backTo pos (starEach es T)) (backToKw pos (keywordEach ks T))) Q E s:=by
 obtain⟨b,h⟩:=i.1 pos T;have go:∀(vs:List Value) (s1:Shared) (gw:Nat->Addr) _ (r1:dR H1.n gw s1.heap vs xs),
   wpAny cx.M A (evalAll ((backToKw pos _).map _)) (λg c=>Q ⟨vs,((backToKw pos _).filterMap _).zip g⟩ c) E s1:=λvs s1 gw d r1=>
  i.2 (C.step d) λws s2 je j k=>by
   have hl:(kx.map (·.1)).length=ws.length:=by rw[k.length,aB,aB]
   rw[h];exact o _ _ _ (d.trans j) (j.zO d.inv r1) ⟨Fg hl,by rw[Qw hl];exact k⟩
 rcases h1.2.1 T with⟨rfl,rfl,rfl⟩|⟨e,m,rfl,l⟩
 exact evalArgs_kw_nil b (go [] s W (dJ.refl _ C.inv) .nil)
 have sp:=h1.2.2 (pos:=pos) (E:=E) C go;rw[l]at sp ⊢;exact evalArgs_kw b sp
end
section
variable {pe:Pe} {n:Nat}
def jP:vY cx n O [] J H .next J H:=λU U U U U U C a=>wpAny_execs_nil (a _ _ _ (dJ.refl _ C.inv) C.vars .next)
def d7{st:Stmt}(h1:GX cx n O st J H .next eE H1)(d:vY cx n O body eE H1 fl dI H2):vY cx n O (st::body) J H fl dI H2:=λU U U U U U C g=>by
 refine wpAny_execs_cons (h1 C λf s1 gw c a r1=>?_);cases r1;exact d (C.to c.inv a) λf s2 je b X2 e=>g _ _ _ (c.j5 b (a.zW b)) X2 e
def gW{st:Stmt}(h1:GX cx n O st J H fl dI H1)(d:isNext fl=false):vY cx n O (st::body) J H fl dI H1:=λU U U U U U C a=>by
 refine wpAny_execs_cons (h1 C λf s1 gw c b r1=>?_);cases r1 with
 |next=>lia
 |brk=>exact a _ _ _ c b .brk
 |cont=>exact a _ _ _ c b .cont
 |ret q=>exact a _ _ _ c b (.ret q)
theorem rK:∀{binds:List (Str×Value)} {m:Str->Option Value} {x:Str},x∉binds.map (·.1)->bindL kindOf binds m x=m x
 |[],_,_,_=>rfl
 |(y,v)::r,m,x,h=>by
  have h1:x≠y:=λe=>h (by simp[e]);unfold bindL;rw[rK (λe=>h (by simp at e ⊢;exact .inr e))]
  split
  ·exact if_neg h1
  ·rfl
def Ji:∀{m:Str->Option Value} {x:Str} {u:Value},(binds.map (·.1)).Nodup->(x,u)∈binds->kindOf x=some .local->bindL kindOf binds m x=some u:=by
 induction binds with
 |nil=>exact λU h=>nomatch h
 |cons p r ih=>
  intro m x u a b hk;rw[cC,cB]at a;unfold bindL;rcases aA b with e|b
  cases e
  rw[rK a.1,if_pos hk];exact if_pos rfl
  exact ih a.2 b hk
def Bt:∀{m:Str->Option Value} {x:Str},x∉binds.map (·.1)->bindC kindOf binds m x=m x:=by
 induction binds with
 |nil=>exact λU=>rfl
 |cons p r ih=>
  intro m x h;have h1:x≠p.1:=λe=>h (e▸.head _);unfold bindC;rw[ih λe=>h (.tail _ e)]
  split
  ·rfl
  ·exact if_neg h1
def Jj:∀{m:Str->Option Value} {x:Str} {u:Value},(binds.map (·.1)).Nodup->(x,u)∈binds->kindOf x≠some .local->bindC kindOf binds m x=some u:=by
 induction binds with
 |nil=>exact λU h=>nomatch h
 |cons p r ih=>
  intro m x u a b hk;rw[cC,cB]at a;unfold bindC;rcases aA b with e|b
  cases e
  rw[Bt a.1,if_neg hk];exact if_pos rfl
  exact ih a.2 b hk
theorem vQ:∀{k:Nat} {acc:List (Str×Addr)},((x,.cell)∈names\/x∈acc.map (·.1))->x∈(cellsFrom k names acc).map (·.1):=by
 induction names with
 |nil=>exact λh=>h.elim (λq=>nomatch q) id
 |cons p r ih=>
  intro k acc h;obtain⟨y,kd⟩:=p;unfold cellsFrom
  split
  ·refine ih ?_;rcases h with h|h
   ·rcases aA h with e|h
    ·cases e;exact .inr (by simp)
    ·exact .inl h
   ·exact .inr (by simp at h ⊢;exact .inr h)
  ·refine ih ?_;rcases h with h|h
   ·rcases aA h with e|h
    ·lia
    ·exact .inl h
   ·exact .inr h
def vG{α:Type}{l:List (Str×α)}:x∈l.map (·.1)->∃c,l.lookup x=some c:=by
 induction l with
 |nil=>exact λh=>nomatch h
 |cons p r ih=>
  intro h;rw[bx];cases hb:x==p.1 with
  |true=>lia
  |false=>
   refine ih ?_;rw[cC,List.mem_cons]at h;rcases h with e|h
   lia
   exact h
def Dk(g:Src->V){ps:List (Str×Src)}:(ps.map λp=>(p.1,g p.2)).lookup x=some v->Ex2 λ(j:Nat) (p:Str×Src)=>ps[j]?=some p/\p.1=x/\v=g p.2:=by
 induction ps with
 |nil=>exact gB
 |cons p ps ih=>
  intro h;rw[cC,bx]at h;cases hb:x==p.1 with
  |true=>rw[hb]at h;exact⟨0,p,rfl,(beq_iff_eq.mp hb).symm,(bh h).symm⟩
  |false=>
   rw[hb]at h;obtain⟨j,q,h1,a,b⟩:=ih h;exact⟨j+1,q,h1,a,b⟩
def vX.length{g vs kvs}{ps:List (Str×Src)}{us:List Value}(h:vX g vs kvs ps us):us.length=ps.length:=by
 induction h with
 |nil=>rfl
 |cons _ _ ih=>exact congrArg _ ih
def vX.get{g vs kvs}{ps:List (Str×Src)}{us:List Value}(h:vX g vs kvs ps us):∀(j:Nat) {p u},ps[j]?=some p->us[j]?=some u->afU g vs kvs p.2 u:=by
 induction h with
 |nil=>exact λj p u e=>gB e
 |cons a _ ih=>
  intro j p u c b;cases j with
  |zero=>exact bh c▸bh b▸a
  |succ j=>exact ih j c b
structure afV (cx:Cx) (n:Nat) (O:Sc) (J:Loc) (A:Around) (T:Env) (W:Nat->Addr) (H:Hp) (s s1:Shared):Prop where
 c:Cn cx n O J H (A.deeper T) T W s1
 keep:∀b o,s.heap.get? b=some o->s1.heap.get? b=some o
 new:∀b,Wr T b->s.heap.get? b=none
 gens:s1.gens=s.gens
 frame:T.frame=some T.locals
theorem HW(P:eY pe cx){kws:List (Str×V)}{ps:List (Str×Src)}(Z:pe.fn f=some fd)(hps:pe.sig f args.length (kws.map (·.1)) ps)(Q:fd.body=.stmts body)(hsc:fd.scope.names=O)
      {kvs:List (Str×Value)}  (a1:ArF n A) (I:Inv cx W H s) (ra:dR H.n W s.heap vs args) (rk:Ey H.n W s.heap kvs kws)
  (hQ:∀{T s1},afV cx n O (ps.map λp=>(p.1,p.2.get args (kws.map (·.2)))) A T W H s s1->wpAny cx.M (A.deeper T) (execs body T) (λf s'=>R (.ok (.ret (match f with|.ret v=>v|_=>.none))) s') (λe s'=>wpAny cx.M (A.deeper T) (leaving T e) (λU K=>R (.error e) K) (λe' K=>R (.error e') K) s') s1) :
  codeAny cx.M A (.call (.ref f) ⟨vs,kvs⟩) R s:=by
 subst hsc;have l:=P.fn Z;have SO:=P.sig Z hps;obtain⟨o,ho,hd⟩:=l.obj;refine codeAny_call_function (by have:=a1.depth;simp only[recursionLimit];lia) (I.keep f o ho) hd l.cor l.gen Q (by obtain⟨c,o,vs,t,e1,e2,e3,e4⟩:=l.code;exact⟨c,o,vs,t,e1,I.keep _ _ e2,e3,e4⟩) ?_;refine SO.bind I.keep (by rw[ra.length]) rk.names λus x=>?_;have hus:=x.length;have L:((ps.map (·.1)).zip us).map (·.1)=ps.map (·.1):=Fg (by simp[hus]);rw[l.clo];have d:∀{y},fd.scope.names.lookup y=some .cell->∀k,((cellsFrom k fd.scope.names []).lookup y).isSome=true:=λ{y} E k=>by
  obtain⟨c,hc⟩:=vG (vQ (k:=k) (.inl (mem_of_lookup E)));rw[hc];rfl
 refine wpAny_newFunctionEnv_cells l.kind (λy E=>?_) λT m s1 C=>?_
 have hy':y.1∈ps.map (·.1):=by rw[<- L];exact aJ E
 obtain⟨p,hp,e⟩:=aF hy';rw[<- e];rcases SO.kinds p hp with q|q
 exact .inl q
 exact .inr ⟨q,d q _⟩
 have hk:=C.toInCall.keep;have hL:T.locals=s.heap.objs.size:=by rw[m];rfl
 obtain⟨h₁,tk,G⟩:=C.toInCall.same;have S0:dJ cx fV W H s W H s1:=dJ.grown _ I hk (by rw[G]) (by rw[G])
 have hgn:∀a,s.heap.objs.size<=a->cx.g.get? a=none:=λa ha=>by
  cases e:cx.g.get? a with
  |none=>rfl
  |some o=>exact absurd (aV (I.keep a o e)) (Nat.not_lt.mpr ha)
 have S:∀y,T.kindOf y=fd.scope.names.lookup y:=λy=>by rw[m];rfl
 have r:=λy c e=>by
  have:=C.above y c (mem_of_lookup e);rw[hL]at this;exact this
 have hnd:(((ps.map (·.1)).zip us).map (·.1)).Nodup:=by rw[L];exact SO.nodup
 have B:∀y v,(ps.map λp=>(p.1,p.2.get args (kws.map (·.2)))).lookup y=some v->∃u,(y,u)∈(ps.map (·.1)).zip us/\Rep H.n W s1.heap u v:=λy v e=>by
  obtain⟨j,p,hj,rfl,rfl⟩:=Dk (λq=>q.get args (kws.map (·.2))) e;have hj':j<ps.length:=(List.getElem?_eq_some_iff.mp hj).1;have hju:us[j]?=some us[j]:=bk ();refine⟨us[j],?_,?_⟩
  refine List.mem_iff_getElem?.mpr ⟨j,?_⟩;rw[List.getElem?_zip_eq_some];exact⟨by simp[hj],hju⟩
  have D:=x.get j hj hju;obtain⟨pn,src⟩:=p;cases src with
  |arg i=>
   obtain⟨y,E,q⟩:=ra.get' i D;show Rep _ _ _ _ (args.getD i .n);rw[bw,E];exact S0.rep I q
  |kw i=>
   obtain⟨y,E,q⟩:=rk.vals.get' i D;show Rep _ _ _ _ ((kws.map (·.2)).getD i .n);rw[bw,E];exact S0.rep I q
  |dflt v=>exact D _ _ _ λb o e=>hk b o (I.keep b o e)
 have X:fK cx T H.n W s1.heap (ps.map λp=>(p.1,p.2.get args (kws.map (·.2)))):=by
  refine⟨⟨_,C.toInCall.ns,λy v e k=>?_⟩,λy v e k=>?_,λi hi q=>?_,λy c e i hi q=>?_,λy c e=>⟨⟨_,C.cell y c e⟩,?_,?_⟩,λy e=>?_,λy z c e1 e2=>name_of_addr C.apart (mem_of_lookup e1) (mem_of_lookup e2),hgn _ (by rw[hL];exact bT _)⟩
  obtain⟨u,hu,q⟩:=B y v e;exact⟨u,Ji hnd hu k,q⟩
  obtain⟨u,hu,q⟩:=B y v e;have F:T.kindOf y≠some .local:=by rcases k with k|k <;> rw[k] <;> simp
  have hyk:fd.scope.names.lookup y=some .cell:=by
   obtain⟨p,hp,e⟩:=aF (show y∈ps.map (·.1)from by rw[<- L];exact aJ (f:=(·.1)) hu);rcases SO.kinds p hp with q|q
   rw[e]at q;rw[S]at F;exact absurd q F
   rw[e]at q;exact q
  obtain⟨c,hc⟩:=Option.isSome_iff_exists.mp (d hyk (s.heap.objs.size+1));have hc':T.cells.lookup y=some c:=by rw[m];exact hc
  exact⟨c,u,hc',by have:=C.cell y c hc';rwa [Jj hnd hu F]at this,q⟩
  have:=I.lt hi;rw[q,hL]at this;exact Nat.lt_irrefl _ this
  have h:=I.lt hi;rw[q]at h;exact Nat.lt_irrefl _ (cA (r y c e) h)
  rw[hL];exact Nat.ne_of_gt (r y c e)
  exact hgn _ (cj (r y c e))
  obtain⟨c,hc⟩:=Option.isSome_iff_exists.mp (d (by rw[<- S];exact e) (s.heap.objs.size+1));exact⟨c,by rw[m];exact hc⟩
 refine⟨P.noLimit.keeps λb o e=>hk b o (I.keep b o e),codeAny_func ?_⟩;have ar:Ar n (A.deeper T):=⟨a1.handled,by have:=a1.depth;show A.depth+1+4*n<1000;lia,by have:=a1.units;show A.units+3+20*n<9900;lia⟩;refine hQ ⟨⟨ar,⟨by rw[m];exact l.kind,λy k e=>.inl (by rw[S];exact e),by rw[m];exact l.glo,by rw[m];exact l.bui,⟨_,by rw[m];exact l.code⟩,λc P q e=>by rw[m];exact l.lam c P q e⟩,S0.inv,X⟩,hk,λb w=>?_,by rw[G],by rw[m];rfl⟩;cases e:s.heap.get? b with
 |none=>rfl
 |some o=>
  have h:=aV e;rcases w with w|⟨y,w⟩
  lia
  exact absurd (cA (r y b w) h) (Nat.lt_irrefl _)
theorem iR(P:eY pe cx){kws:List (Str×V)}{ps:List (Str×Src)}(j:pe.fn f=some fd)(l:pe.sig f args.length (kws.map (·.1)) ps)(b:fd.body=.stmts body)(k:fd.scope.names=O)(h1:vY cx n O body (ps.map λp=>(p.1,p.2.get args (kws.map (·.2)))) H fl dI H') (d:flV fl=some x):yU cx n f args kws H x H':=by
 intro A s W vs kvs R y I t r m;refine HW P j l b k y I t r λ{T s1} c=>h1 c.c λz s2 je h X2 u=>?_;have S:dJ cx fV W H s je H' s2:=⟨h.inv,h.le,h.rY,λi h1 d=>(by
  cases e:s.heap.get? _ with
  |none=>rfl
  |some o=>have:=h.fresh i h1 d;rw[c.keep _ _ e]at this;contradiction),λa o e v U=>h.ext a o (c.keep a o e) v λw=>(by rw[c.new a w]at e;contradiction),λg x e=>h.gx g x (by rw[c.gens];exact e)⟩
 cases u with
 |next=>cases d;exact m _ _ _ S .none
 |ret q=>cases d;exact m _ _ _ S q
 |brk=>lia
 |cont=>lia
end
def gF{α:Type}{p:Str×α}{l:List (Str×α)}(h:(y==p.1)=false):(p::l).lookup y=l.lookup y:=by
 rw[bx,h]
def Ga:eO (p::J) x v=if p.1=x then(x,v)::J else p::eO J x v:=rfl
theorem eU:(eO J x v).lookup y=if y=x then some v else J.lookup y:=by
 induction J with
 |nil=>
  by_cases h:y=x
  ·rw[h,if_pos rfl];exact cN
  ·rw[if_neg h];exact gF (bB h)
 |cons p J ih=>
  rw[Ga];by_cases hz:p.1=x
  ·rw[if_pos hz];by_cases h:y=x
   ·rw[h,if_pos rfl];exact cN
   ·rw[if_neg h,gF (bB h),gF (bB (hz▸h))]
  ·rw[if_neg hz];by_cases h:y=p.1
   ·rw[if_neg (h▸hz),h,cN];exact List.lookup_cons_self.symm
   ·rw[gF (bB h),gF (bB h),ih]
theorem jF(J:Loc)(x:Str)(v:V):J.length<=(eO J x v).length/\(eO J x v).length<=J.length+1/\(J.lookup x=none->(eO J x v).length=J.length+1):=by
 induction J with
 |nil=>exact⟨bN _,bT _,λU=>rfl⟩
 |cons p J ih=>
  rw[Ga];by_cases hz:p.1=x
  rw[if_pos hz];exact⟨bT _,cF _,λh=>by rw[bx,beq_iff_eq.mpr hz.symm]at h;exact gB h.symm⟩
  rw[if_neg hz];exact⟨cu ih.1,cu ih.2.1,λh=>congrArg _ (ih.2.2 (by rw[gF (bB λq=>hz q.symm)]at h;exact h))⟩
noncomputable def nC(es:Array DictEntry)(k:Nat):Obj:={cls:=.type "dict",data:=.dict es k}
def noRefKey(hk:StrKeys es):es.any (·.refKey)=false:=by
 rw[Array.any_eq_false'];intro e a;obtain⟨n,t,h⟩:=hk e a;simp[DictEntry.refKey,h]
def nT(hk:StrKeys es)(name:Str):lookIn name (nC es k)=some (nsFind es name):=by
 unfold lookIn nC nsFind findBy;dsimp only;rw[<- Array.find?_toList];cases e:es.toList.find? _ with
 |some en=>rfl
 |none=>
  rw[Array.any_toList,noRefKey hk];rfl
section
variable {s:Shared}
def Inv.inst(I:Inv cx W H s){C:Nat}(hi:i<H.n)(e:H.f i=.i C d):d<H.n/\s.heap.get? (W i)=some (instObj C (W d)):=by
 have:=I.objs i hi;rw[e]at this;exact this
def Inv.ns(I:Inv cx W H s)(hd:d<H.n)(e:H.f d=.n kvs):Ex2 λes k=>s.heap.get? (W d)=some (nC es k)/\StrKeys es/\es.size<=kvs.length/\(∀x v,kvs.lookup x=some v->∃u,nsFind es x=some u/\Rep H.n W s.heap u v)/\∀x,kvs.lookup x=none->nsFind es x=none:=by
 have:=I.objs d hd;rw[e]at this;exact this
def nZ(e:h.get? x=some (instObj C a))(b:h.get? a=some (nC es k)):InstAt h x (instObj C a) C (some (nC es k)):=
 ⟨e,rfl,rfl,b⟩
set_option tactic.hygienic true in
def Dz{u:Value}(r:Rep n W h u x):handedIn u=true:=by
 cases r <;> first|rfl|skip
 rename_i b;exact b.ok
theorem oM{m:Option Addr}{u:Value}(c:Hq cx C name m)(hk:StrKeys es)(g:nsFind es name=some u):findObj cx.K C (some (nC es k)) name=some (.value u):=by
 obtain⟨cd,d,a⟩:=c.cd;unfold findObj;rw[d,c.hf,Option.bind_some];have b:W.ownOf cd (some (nC es k)) name=some (some u):=by
  unfold W.ownOf;rw[if_pos a];show lookIn name (nC es k)=_;rw[nT hk,g]
 cases m with
 |none=>simp only[Option.map_none,Option.bind_some,b]
 |some f=>
  obtain⟨_,e,h⟩:=c.fn f rfl;simp only[Option.map_some,e,Option.bind_some,h,b]
theorem yC(c:Hq cx C name (some f))(hk:StrKeys es)(g:nsFind es name=none):findObj cx.K C (some (nC es k)) name=some (.bind (.builtin "function.__get__") (.ref f)):=by
 obtain⟨cd,d,a⟩:=c.cd;unfold findObj;rw[d,c.hf];have b:W.ownOf cd (some (nC es k)) name=some none:=by
  unfold W.ownOf;rw[if_pos a];show lookIn name (nC es k)=_;rw[nT hk,g]
 obtain⟨_,e,h⟩:=c.fn f rfl;simp only[Option.map_some,e,Option.bind_some,h,b,c.cop,Bool.false_and,Bool.false_eq_true,if_false]
theorem wu(P:eY pe cx){C:Nat}{m:Option Addr}(hi:i<H.n) (e:H.f i=.i C d) (q:H.f d=.n kvs) (hc:pe.cls C name=some m) (a:(kvs.lookup name).or (m.map λf=>V.m f (.r i))=some x) (I:Inv cx W H s)(j:∀v s',dJ cx fV W H s W H s'->Rep H.n W s'.heap v x->Q v s'):wpAny cx.M A (getAttr (.ref (W i)) name expr) Q E s:=by
 obtain⟨hd,h⟩:=I.inst hi e;obtain⟨es,k,b,hk,_,h1,p⟩:=I.ns hd q;have c:=P.cls hc;have X:=P.kin.keeps I.keep;have J7:=nZ h b;cases hv:kvs.lookup name with
 |some v=>
  rw[hv]at a;cases a;obtain⟨u,g,l⟩:=h1 _ _ hv;exact get_value X J7 c.hga (oM c hk g) (Dz l) (j _ _ (dJ.toks _ I) l)
 |none=>
  rw[hv]at a;cases m with
  |none=>lia
  |some f=>
   cases a;refine get_bind X J7 c.hga (yC c hk (p _ hv)) c.hk (wpAny_call (fn_get X (c.fn f rfl).1 (bH () (j _ _ (dJ.grown _ I (λU U e=>aq _ e) rfl rfl) (.mt (bR _ rfl) (.ref i hi))))))
end
theorem xP(hk:StrKeys es)(name:Str)(hash:Int)(t:Tok)(v:Value):Ex2 λa b=>Obj.putName name hash (.str name t) v (nC es k)=nC a b/\StrKeys a/\a.size<=es.size+1/\(nsFind es name≠none->a.size=es.size)/\∀x,nsFind a x=if x=name then some v else nsFind es x:=by
 cases hi:es.findIdx? _ with
 |some i=>
  exact⟨es.modify i λe=>{e with val:=v},k,by simp only[Obj.putName_eq,Obj.putNameByArray,nC,hi],hk.modify _ _,by simp,λU=>by simp,λx=>(findBy_modify _ Value.isStr_inj es name x v i hi)⟩
 |none=>
  refine⟨es.push ⟨hash,.str name t,v⟩,k+1,by simp only[Obj.putName_eq,Obj.putNameByArray,nC,hi],hk.push _ _ _ _,by simp,λh=>absurd ?_ h,λx=>?_⟩
  unfold nsFind;rw[findBy_of_findIdx?,hi]
  exact findBy_push _ es name x _ _ v (λy=>by
   show(name==y)=decide _;by_cases h:y=name
   lia
   have:¬ name=y:=λe=>h e.symm;simp[h,this]) hi
section
variable {s:Shared}
theorem HJ(P:eY pe cx){C:Nat}{m:Option Addr}{v:Value}(hi:i<H.n) (e:H.f i=.i C d) (ed:H.f d=.n kvs) (hc:pe.cls C name=some m) (hl:kvs.length<1000) (I:Inv cx W H s) (rv:Rep H.n W s.heap v x)(hQ:∀s',dJ cx fV W H s W (H.put d (.n (eO kvs name x))) s'->Q Unit.unit s'):wpAny cx.M A (setAttr (.ref (W i)) name v) Q E s:=by
 obtain⟨hd,t⟩:=I.inst hi e;obtain⟨es,k,j,hk,hsz,h1,h2⟩:=I.ns hd ed;have c:=P.cls hc;have X:=P.kin.keeps I.keep;have J7:=nZ t j;obtain⟨cd,F,p⟩:=c.cd;refine set_plain X J7 c.hsa ?_;have ht:takerIn cx.K C name=some none:=by
  unfold takerIn;rw[c.hf];cases m with
  |none=>rfl
  |some f=>show(takesIn cx.K _).map _=_;rw[(c.fn f rfl).2.2];rfl
 have S:cx.K.In ({s with toks:=s.toks+1}:Shared).heap:=X;refine osa_open S J7 c.over ht λb=>?_;obtain⟨l,R,hp,D,hz',B,r⟩:=xP hk name _ _ v;refine aj (ak (aj (aj (wpAny_loadPart t (aj ((looks_clsIn S F).here ?_))))));rw[p];refine ak (aj (ak (aj (aj (aj (wpAny_askSetting (ak (aj (wpAny_mkText (aj (wpAny_loadPart j ?_)))))))))));dsimp only[nC];have cc:(!es.any (·.key.isStr name)&&es.any (·.refKey))=false:=by rw[noRefKey hk,Bool.and_false]
 rw[aRefKeyMayBeTheName_at,cc];refine wpAny_updatePart j ?_;have Z:(s.heap.update (W d) (Obj.putName name (PyData.keyHash cx.w.params name) (.str name (s.toks+1)) v)).get? (W d)=some (nC l R):=by
  have:=bV (Obj.putName name _ _ v) j (by rw[hp];rfl)
  rwa [hp]at this
 refine aj (wpAny_lookBehind Z (pastItsLine_dict (by rw[sizeLine_eq];lia)) (ak (hQ _ (dJ.put _ I hd (Heap.SameBut.update ..) ?_ rfl rfl))));have K:Kp H.n W s.heap H.n W (s.heap.update _ (Obj.putName name (PyData.keyHash cx.w.params name) (.str name (s.toks+1)) v)):=⟨bT _,λU U=>rfl,λa o e hc=>(Heap.SameBut.update ..).extBut a o (λq=>I.m6 e hc d hd q.symm) e⟩;have L:=jF kvs name x;refine⟨l,R,Z,D,?_,λy w g=>?_,λy g=>?_⟩
 cases hn:kvs.lookup name with
 |none=>lia
 |some z=>
  obtain⟨u,G,_⟩:=h1 _ _ hn;lia
 rw[eU]at g;rw[r];by_cases h:y=name
 rw[if_pos h]at g ⊢;cases g;exact⟨v,rfl,rv.mono K⟩
 rw[if_neg h]at g ⊢;obtain⟨u,G,ru⟩:=h1 _ _ g;exact⟨u,G,ru.mono K⟩
 rw[eU]at g;rw[r];by_cases h:y=name
 lia
 rw[if_neg h]at g ⊢;exact h2 _ g
end
section
variable {s:Shared}
theorem vD{K:Frag}{b:Obj}{o:Obj}{v:Value}(X:K.In s.heap)(I:InstAt s.heap x b C (some o))(hga:findIn K (.ref C) "__getattribute__"=some (some (.builtin "object.__getattribute__")))(hk:findIn K (.ref C) "__getattr__"=some none)(hf:findIn K (.ref C) name=some (some (.ref f))) (c:typeIn K (.ref f)=some (.type "function")) (d:lookIn name o=some (some v))(h:wpAny (model prog w) A (getAttr (.ref x) name) (λv=>Q (v,[])) E s):wpAny (model prog w) A (getMethod (.ref x) name pl) Q E s:=by
 have a:=PySem.F.canon_object_ga;refine aj (aj (I.type.here ((looks_findIn X hga).here ?_)));dsimp only;rw[a,if_neg ()];refine aj (aj (I.type.here ((looks_findIn X hk).here ?_)));refine aj (aj (I.type.here ((looks_findIn X hf).here (aj ((looks_typeIn X c).here ?_)))));refine aj (wpAny_loadPart I.at_ ?_);have hd:=I.dict;cases e:b.dict with
 |none=>rw[e]at hd;exact hd.elim
 |some g=>
  rw[e]at hd;refine aj (aj (wpAny_loadPart hd ?_));rw[nsLook_of d];exact ak (aj (bG h (λU U z=>ak z) λU U z=>z))
theorem CJ(P:eY pe cx){C:Nat}{m:Option Addr}(hi:i<H.n) (e:H.f i=.i C d) (j:H.f d=.n kvs) (hc:pe.cls C name=some m) (a:(kvs.lookup name).or (m.map λf=>V.m f (.r i))=some x) (I:Inv cx W H s)(h:∀f first s',dJ cx fV W H s W H s'->Hr H.n W s'.heap f first x->Q (f,first) s'):wpAny cx.M A (getMethod (.ref (W i)) name pl) Q E s:=by
 obtain⟨hd,g⟩:=I.inst hi e;obtain⟨es,k,b,hk,_,h1,l⟩:=I.ns hd j;have c:=P.cls hc;have X:=P.kin.keeps I.keep;have J7:=nZ g b;have G:=wu P (A:=A) (E:=E) (expr:=false) hi e j hc a I λv s' S r=>h _ _ _ S (.obj r);cases hv:kvs.lookup name with
 |none=>
  rw[hv]at a;cases m with
  |none=>lia
  |some f=>
   cases a;refine method_fn X J7 c.hga c.hk c.hf (c.fn f rfl).1 ?_ (h _ _ _ (dJ.refl _ I) (.mt (.ref i hi)));show(lookIn name _).map (·.isSome)=some false;rw[nT hk,l _ hv];rfl
 |some v=>
  cases m with
  |none=>exact method_usual X J7 c.hga c.hk c.hf rfl G
  |some f=>
   obtain⟨u,o,_⟩:=h1 _ _ hv;exact vD X J7 c.hga c.hk c.hf (c.fn f rfl).1 (by rw[nT hk,o]) G
def DN{id:String}{t:Tok}(slot:Slot "str" name id)(ty:typeOf (.builtin id)=pure (.type "method_descriptor"))(h:Q (.builtin id,[.str x t]) s):wpAny cx.M A (getMethod (.str x t) name pl) Q E s:=by
 have a:=@getMethod_builtin cx.M A E s _ "str" name id pl Q () F.plainAttrs_str slot ty GM.noRef h
 with_reducible exact a
def TabOk(T7:String)(tab:List (Str×Pm)):Prop:=∀q∈tab,Slot T7 q.1 q.2.id/\typeOf (.builtin q.2.id)=pure (.type "method_descriptor")
def f9{T7:String}(h1:Slot T7 q.1 q.2.id)(b:typeOf (.builtin q.2.id)=pure (.type "method_descriptor"))(h:TabOk T7 tab):TabOk T7 (q::tab):=λr a=>by
 rcases aA a with rfl|a
 ·exact⟨h1,b⟩
 ·exact h r a
def xq{T7:String}:TabOk T7 []:=λU h=>nomatch h
def Mq:TabOk "list" nW:=f9 F.slot_list_append F.type_list_append (f9 F.slot_list_pop F.type_list_pop (f9 F.slot_list_sort F.type_list_sort (f9 F.slot_list_extend F.type_list_extend (f9 F.slot_list_index F.type_list_index xq))))
def O6:TabOk "dict" n8:=f9 F.slot_dict_items F.type_dict_items (f9 F.slot_dict_get F.type_dict_get (f9 F.slot_dict_update F.type_dict_update xq))
def Q5:TabOk "str" strTab:=f9 F.slot_str_join F.type_str_join (f9 F.slot_str_strip F.type_str_strip (f9 F.slot_str_rsplit F.type_str_rsplit (f9 F.slot_str_split F.type_str_split (f9 F.slot_str_find F.type_str_find (f9 F.slot_str_startswith F.type_str_startswith (f9 F.slot_str_endswith F.type_str_endswith xq))))))
def xr{f:Pm->V}(h:(tab.lookup name).map f=some x):∃p,(name,p)∈tab/\f p=x:=
 by obtain⟨p,h1,a⟩:=map_some h;exact⟨p,mem_of_lookup h1,a⟩
theorem NK{T7:String}(d:TabOk T7 tab)(hp:PlainAttrs T7){o:Obj}(hi:i<H.n)(ho:s.heap.get? (W i)=some o)(hc:o.cls=.type T7)(hd:o.dict=none)(h:(tab.lookup name).map (λp=>V.k p (.r i))=some x) (b:∀f first,Hr H.n W s.heap f first x->Q (f,first) s):wpAny cx.M A (getMethod (.ref (W i)) name pl) Q E s:=by
 obtain⟨p,e,rfl⟩:=xr h;obtain⟨h1,c⟩:=d _ e;exact getMethod_builtin ⟨o,ho,hc⟩ hp h1 c (λa q=>by cases q;exact⟨o,ho,hd⟩) (b _ _ (.bm (.ref i hi)))
theorem zK(P:eY pe cx){u:Value}(h:attr pe H name v=some x)(I:Inv cx W H s)(g:Rep H.n W s.heap u v)(j:∀f first s',dJ cx fV W H s W H s'->Hr H.n W s'.heap f first x->Q (f,first) s'):wpAny cx.M A (getMethod u name pl) Q E s:=by
 have q:=λf first=>j f first s (dJ.refl _ I);cases v with
 |r i=>
  obtain⟨hi,rfl⟩:=g.dX;have h:wV pe H name i (H.f i)=some x:=h;generalize e:H.f i=o at h;cases o with
  |i C d=>
   have h:Ay pe name i C (H.f d)=some x:=h;generalize y:H.f d=o at h;cases o with
   |n kvs=>
    obtain⟨m,hc,z⟩:=Option.bind_eq_some_iff.mp h;exact CJ P hi e y hc z I j
   |_=>lia
  |l xs=>
   obtain⟨vs,k,ho,_⟩:=I.list hi e;exact NK Mq F.plainAttrs_list hi ho rfl rfl h q
  |d kvs=>
   obtain⟨ps,⟨o,es,k,ho,a,_⟩,_⟩:=I.dict hi e;exact NK O6 F.plainAttrs_dict hi ho a.1 a.2.1 h q
  |e ks=>
   have c:=I.objs i hi;rw[e]at c;obtain⟨p,b,rfl⟩:=xr h;cases au b;exact getMethod_set_add c.1.set (q _ _ (.bm (p:=.Yl) (.ref i hi)))
  |_=>lia
 |s x=>
  obtain⟨t,rfl⟩:=g.dY;obtain⟨p,b,rfl⟩:=xr h;obtain⟨h1,w⟩:=Q5 _ b;with_reducible exact DN h1 w (q _ [.str x t] (.bm (.str x t)))
 |_=>first|exact gB h|exact iC h|cases h
end
def j4(ps:List (Str×Value))(x:Str):valueAt ps x=ps.lookup x:=by
 unfold valueAt
 induction ps with
 |nil=>rfl
 |cons p ps ih=>
  obtain⟨y,u⟩:=p;rw[List.find?_cons,bx];by_cases h:y=x
  ·subst h;simp
  ·have h':(x==y)=false:=by simpa using λe=>h e.symm
   simp only[h,decide_false,h'];exact ih
theorem oY{ps:List (Str×Value)}:∀{kvs:List (Str×V)},ps.map (·.1)=kvs.map (·.1)->dR n W h (ps.map (·.2)) (kvs.map (·.2))->∀x,
  (∀v,kvs.lookup x=some v->∃u,ps.lookup x=some u/\Rep n W h u v)/\(kvs.lookup x=none->ps.lookup x=none):=by
 induction ps with
 |nil=>intro kvs c _ x;cases List.map_eq_nil_iff.mp c.symm;exact⟨λU e=>gB e,λU=>rfl⟩
 |cons p ps ih=>
  intro kvs c r x;cases kvs with
  |nil=>lia
  |cons q kvs=>
   obtain⟨y,u⟩:=p;obtain⟨z,w⟩:=q;obtain⟨e,d⟩:=List.cons.inj c;subst e
   cases r with|cons a b=>
   rw[bx,bx];cases hb:x==y with
   |true=>lia
   |false=>exact ih d b x
section
variable {s:Shared}
def dJ.nO{vs:Array Value}(I:Inv cx W H s)(hi:i<H.n)(c:Heap.SameBut (W i) s.heap s'.heap)(e:s'.heap.get? (W i)=some {cls:=.type "list",data:=.seq vs k}) (r:dR H.n W s.heap vs.toList xs) (b:s'.os=s.os) (hb:s'.gens=s.gens):dJ cx fV W H s W (H.put i (.l xs)) s':=by
 refine dJ.put _ I hi c ⟨vs,k,e,r.mono ⟨bT _,λU U=>rfl,λa o e hc=>c.extBut a o (λq=>I.m6 e hc i hi q.symm) e⟩⟩ b hb
theorem K7{v:Value}(hi:i<H.n)(e:H.f i=.l xs)(hl:xs.length<lim)(I:Inv cx W H s)(b:Rep H.n W s.heap v x)(d:∀s',dJ cx fV W H s W (H.put i (.l (xs++[x]))) s'->Q .none s'):wpAny cx.M A (call (.builtin "list.append") [.ref (W i),v]) Q E s:=by
 obtain⟨vs,k,ho,q⟩:=I.list hi e;refine wpAny_list_append_plain ⟨k,ho⟩ (λh' hp c=>d _ ?_) (by rw[size_of q];lia);obtain⟨g,a⟩:=hp;exact dJ.nO I hi c a (by rw[Array.toList_push];exact q.snoc b) rfl rfl
def dR.dropLast(r:dR n W h vs xs):dR n W h vs.dropLast xs.dropLast:=
 dR.ind (m:=λvs xs U=>dR n W h vs.dropLast xs.dropLast) .nil (λa b ih=>by
  cases b with
  |nil=>lia
  |cons b c=>exact .cons a ih) r
def dR.last(r:dR n W h vs xs)(e:xs.getLast?=some x):∃v,vs.getLast?=some v/\Rep n W h v x:=by
 rw[List.getLast?_eq_getElem?]at e ⊢;obtain⟨v,a,q⟩:=r.get _ e;exact⟨v,by rw[r.length];exact a,q⟩
theorem acU(hi:i<H.n)(e:H.f i=.l xs)(g:xs.getLast?=some x)(hl:xs.length<=lim)(I:Inv cx W H s)(h:∀v s',dJ cx fV W H s W (H.put i (.l xs.dropLast)) s'->Rep H.n W s'.heap v x->Q v s'):wpAny cx.M A (call (.builtin "list.pop") [.ref (W i)]) Q E s:=by
 obtain⟨vs,k,ho,q⟩:=I.list hi e;obtain⟨v,c,d⟩:=q.last g;have a:vs[vs.size-1]?=some v:=by
  rw[List.getLast?_eq_getElem?]at c;simpa using c
 have S:dJ cx fV W H s W (H.put i (.l xs.dropLast)) {s with heap:=s.heap.update (W i) (Obj.mapSeq λxs=>xs.eraseIdxIfInBounds (vs.size-1))}:=by
  refine dJ.nO I hi (Heap.SameBut.update ..) (bV _ ho rfl) ?_ rfl rfl;have:(vs.eraseIdxIfInBounds (vs.size-1)).toList=vs.toList.dropLast:=by
   have b:vs.toList.length=(vs.size-1)+1:=by
    have:vs.size≠0:=λh0=>by rw[h0]at a;simp[Array.getElem?_eq_none ()]at a
    exact(Nat.succ_pred this).symm
   obtain⟨l⟩:=vs;simp only[cg]at b ⊢;rw[List.eraseIdxIfInBounds_toArray,List.dropLast_eq_take,List.eraseIdx_eq_take_drop_succ,List.drop_eq_nil_of_le (),aX]
  exact this▸q.dropLast
 exact call_meets F.slot_list_pop ⟨_,ho,rfl⟩ F.entry_list_pop (F.args_list_pop_1 _) (MeetsSeq.list_pop_last _ vs k v a (by rw[(size_of q)];exact hl)) ⟨ho,h _ _ S (S.rep I d)⟩
theorem RV(b:iQ cx)(hi:i<H.n)(e:H.f i=.d kvs)(I:Inv cx W H s)(a:∀v s',dJ cx fV W H s W H s'->Rep H.n W s'.heap v (.w i)->Q v s'):wpAny cx.M A (call (.builtin "dict.items") [.ref (W i)]) Q E s:=by
 obtain⟨ps,hd,c,q⟩:=I.dict hi e;exact call_meetsIn F.slot_dict_items hd.typeIs F.entry_dict_items (F.args_dict_items_1 _) (meets_dict_items _ _ (I.kj b hi))
  ⟨⟨ps,hd⟩,a _ _ (dJ.grown _ I (λU U e=>aq _ e) rfl rfl) (.view hi (bR _ rfl))⟩
theorem acV{k:Str}{t:Tok}(b:iQ cx)(hi:i<H.n)(e:H.f i=.d kvs)(I:Inv cx W H s)(g:∀v s',dJ cx fV W H s W H s'->Rep H.n W s'.heap v ((kvs.lookup k).getD .n)->Q v s'):wpAny cx.M A (call (.builtin "dict.get") [.ref (W i),.str k t]) Q E s:=by
 obtain⟨ps,hd,h,q⟩:=I.dict hi e;refine call_meetsIn F.slot_dict_get hd.typeIs F.entry_dict_get (F.args_dict_get_2 _ _) (meets_dict_get _ _ (jL k t) (I.kj b hi)) ⟨_,hd.mapOf,g _ _ (dJ.toks _ I) ?_⟩;rw[j4];obtain⟨h1,a⟩:=oY h q k;cases hk:kvs.lookup k with
 |none=>rw[a hk];exact .none
 |some v=>obtain⟨u,c,r⟩:=h1 v hk;exact c▸r
theorem YK{k:Str}{t:Tok}{d:V}(c:iQ cx)(hi:i<H.n)(e:H.f i=.d kvs)(I:Inv cx W H s)(rd:Rep H.n W s.heap a d)(h:∀v s',dJ cx fV W H s W H s'->Rep H.n W s'.heap v ((kvs.lookup k).getD d)->Q v s'):wpAny cx.M A (call (.builtin "dict.get") [.ref (W i),.str k t,a]) Q E s:=by
 obtain⟨ps,hd,j,q⟩:=I.dict hi e;refine call_meetsIn F.slot_dict_get hd.typeIs F.entry_dict_get (F.args_dict_get_3 _ _ _) (meets_dict_get_default _ _ (jL k t) (I.kj c hi) a) ⟨_,hd.mapOf,h _ _ (dJ.toks _ I) ?_⟩;rw[j4];obtain⟨h1,b⟩:=oY j q k;cases hk:kvs.lookup k with
 |none=>rw[b hk];exact rd
 |some v=>obtain⟨u,g,r⟩:=h1 v hk;exact g▸r
def YH{k:Str}{t:Tok}(hi:i<H.n)(e:H.f i=.e ks)(hl:ks.length<1000)(I:Inv cx W H s)(c:∀s',dJ cx fV W H s W (H.put i (.e (iG ks k))) s'->Q .none s'):wpAny cx.M A (call (.builtin "set.add") [.ref (W i),.str k t]) Q E s:=by
 have d:iH cx.prog cx.w s.heap (W i) ks:=by have:=I.objs i hi;rw[e]at this;exact this
 exact Jg d () λh' b a=>c _ (dJ.put _ I hi b a rfl rfl)
def jR(ts:List (Str×Tok)):strValues ts=ts.map λp=>Value.str p.1 p.2:=by
 rfl
theorem YJ{t:Tok}(hi:i<H.n)(e:H.f i=.l xs)(hl:strsOf xs=some l)(a:JoinOk x l=true)(I:Inv cx W H s)(c:∀v s',dJ cx fV W H s W H s'->Rep H.n W s'.heap v (.s (Txt.join x l))->Q v s'):wpAny cx.M A (call (.builtin "str.join") [.str x t,.ref (W i)]) Q E s:=by
 obtain⟨vs,k,ho,q⟩:=I.list hi e;obtain⟨ts,h1,b⟩:=j6 hl q;refine SC.join ?_ h1 a λd k=>c _ _ (dJ.toks _ I) (.str _ _);rw[jR,<- b];exact d8 ()
end
section
variable {s:Shared}
def aaL(x:Str)(t:Tok)(v:Value):checkBoundCall "str.join" ⟨[.str x t,v],[]⟩=pure Unit.unit:=by rfl
noncomputable def P0:Manifest.Signature:=(Manifest.signature? "list.append").get (by decide+kernel)
def abh:Manifest.signature? "list.append"=some P0:=by simp[P0]
def rR:isSubtype (.type "list") (.type "module")=pure false:=by rw[isSubtype_type];kernel_rfl
theorem yK{v:Value}{o:Obj}{items:Array Value}(ho:s.heap.get? l=some o)(hc:o.cls=.type "list")(hd:o.data=.seq items n)(h:Q Unit.unit s):wpAny cx.M A (checkBoundCall "list.append" ⟨[.ref l,v],[]⟩) Q E s:=by
 have a:s.TypeIs (.ref l) "list":=⟨o,ho,hc⟩;refine aj (wpAny_isInstance a rR ?_);refine aj ?_;refine aj (wpAny_loadPart ho ?_);rw[hd];refine ak ?_;refine aj (wpAny_typeOf a ?_);exact bH ((by rfl)) h
theorem u6{id:String}{w:Value}(ho:s.heap.get? a=some {cls:=.type "builtin_function_or_method",data:=.fields #[.builtin id,w]})(hb:entryFor table id=some B) (d:plainId id=true)(h:wpAny cx.M A.in1 (checkBoundCall id ⟨w::vs,[]⟩) (λ_ b=>wpAny cx.M A.in1 (B ⟨w::vs,[]⟩) (λfin s'=>match fin with|.done f=>R (.ok f) s'|.again c=>c.quiet=true/\codeAny cx.M A c R s') (λe s'=>R (.error e) s') b) (λe s'=>R (.error e) s') s):codeAny cx.M A (.call (.ref a) ⟨vs,[]⟩) R s:=by
 refine bK (aj (wpAny_load ho (wiT rfl (aj (bG h (λ_ b h₁=>ak ⟨bI d _,bJ hb ?_⟩) λU U e=>e)))));rw[Around.under_plainId d];exact h₁
theorem yN{v:Value}(ho:s.heap.get? a=some {cls:=.type "builtin_function_or_method",data:=.fields #[.builtin "list.append",.ref (W i)]})(hi:i<H.n) (e:H.f i=.l xs) (hl:xs.length<lim) (I:Inv cx W H s) (c:Rep H.n W s.heap v x)(d:∀s',dJ cx fV W H s W (H.put i (.l (xs++[x]))) s'->Q .none s'):wpAny cx.M A (call (.ref a) [v]) Q E s:=by
 obtain⟨vs,k,b,q⟩:=I.list hi e;exact wpAny_call (u6 ho F.entry_list_append (by decide+kernel) (yK b rfl rfl (PySem.list_append (W i) vs k v (by rw[size_of q,<- o7];lia) cx.prog cx.w A (wants Q E) s ⟨b,d _ (dJ.nO I hi (Heap.SameBut.update ..) (bV _ b rfl) (by rw[Array.toList_push];exact q.snoc c) rfl rfl)⟩)))
theorem Eo{t:Tok}(ho:s.heap.get? a=some {cls:=.type "builtin_function_or_method",data:=.fields #[.builtin "str.join",.str x t]})(hi:i<H.n) (e:H.f i=.l xs) (hl:strsOf xs=some l) (c:JoinOk x l=true) (I:Inv cx W H s)(h:∀v s',dJ cx fV W H s W H s'->Rep H.n W s'.heap v (.s (Txt.join x l))->Q v s'):wpAny cx.M A (call (.ref a) [.ref (W i)]) Q E s:=by
 obtain⟨vs,k,d,q⟩:=I.list hi e;obtain⟨ts,h1,g⟩:=j6 hl q;refine wpAny_call (u6 ho F.entry_str_join rfl (bH rfl ?_));subst h1;have b:=c;unfold JoinOk at b;rw[cO]at b;refine meets_str_join_list x t _ ts b cx.prog cx.w A (wants Q E) s ⟨?_,post_join ts ⟨joinFit_length b,λj k=>h _ _ (dJ.toks _ I) (.str _ _)⟩⟩;rw[jR,<- g];exact d8 ()
def zZ{w:Value}{kvs:List (Str×Value)}(ho:s.heap.get? a=some {cls:=.type "method",data:=.fields #[.ref f,w]})(h:codeAny cx.M A (.call (.ref f) ⟨w::vs,kvs⟩) R s):codeAny cx.M A (.call (.ref a) ⟨vs,kvs⟩) R s:=bK (aj (wpAny_load ho (wiT rfl (ak ⟨rfl,h⟩))))
end
theorem Dw:∀{xs:List V} {l:List Int} {vs:List Value},intsOf xs=some l->dR n W h vs xs->l.length=vs.length/\∀(i:Nat) v,vs[i]?=some v->∃t,v=.int (l.getD i 0) t:=by
 intro xs
 induction xs with
 |nil=>intro l vs e r;cases r;exact⟨congrArg List.length (bh e).symm,λi v h=>gB h⟩
 |cons x xs ih=>
  intro l vs e r
  cases r with|cons a b=>
  cases x with
  |i z=>
   obtain⟨l',f,rfl⟩:=Option.map_eq_some_iff.mp e;obtain⟨h1,d⟩:=ih f b;obtain⟨t,rfl⟩:=a.eN;refine⟨congrArg _ h1,λi v c=>?_⟩;cases i with
   |zero=>exact⟨t,(bh c).symm⟩
   |succ i=>exact d i v c
  |_=>exact gB e
def zR(l:List Int):∀n,preSum (λi=>l.getD i 0) n=(l.take n).sum:=by
 intro n
 induction n with
 |zero=>rfl
 |succ n ih=>
  rw[preSum,ih,List.take_add_one];cases h:l[n]? with
  |none=>simp[bw,h]
  |some v=>simp[bw,h]
section
variable {s:Shared}
def f_len(hi:i<H.n)(e:H.f i=.l xs)(hl:xs.length<=lim)(I:Inv cx W H s)(b:∀v s',dJ cx fV W H s W H s'->Rep H.n W s'.heap v (.i xs.length)->Q v s'):wpAny cx.M A (call (.builtin "len") [.ref (W i)]) Q E s:=by
 obtain⟨vs,k,ho,q⟩:=I.list hi e;have hz:=size_of q;have a:lim=16777216:=rfl;exact PySem.Calls.call_len_list (d8 ho) () (hz▸b _ _ (dJ.toks _ I) (.int _ _))
theorem aak(g:iQ cx)(hi:i<H.n)(e:H.f i=.d kvs)(hl:kvs.length<=lim)(I:Inv cx W H s)(k:∀v s' ρ',dJ cx fV W H s ρ' (H.alloc (.d kvs)) s'->Rep (H.n+1) ρ' s'.heap v (.r H.n)->Q v s'):wpAny cx.M A (call (.type "dict") [.ref (W i)]) Q E s:=by
 obtain⟨ps,hd,c,q⟩:=I.dict hi e;have hz:ps.length=kvs.length:=by have:=congrArg List.length c;simpa using this
 refine kt_call_dict (I.kj g hi) hd (by rw[hz];exact hl) λh' b h=>?_;have hk:=λa o e=>h.extBut a o (aY (aV e)) (aq _ e);refine k _ _ _ (dJ.new _ I (fC _) I.Ij hk ⟨ps,b,c,?_⟩ rfl rfl) gq;exact q.mono ⟨cF _,λi hi=>if_neg (aY hi),λa o e U=>hk a o e⟩
def Dy:∀l:List Int,intsOf (l.map .i)=some l:=λl=>by
 induction l with
 |nil=>rfl
 |cons x l ih=>show(intsOf _).map _=_;rw[ih];rfl
theorem J9{vs:Array Value}(g:A.handled=none)(ho:s.heap.IsList a vs)(q:dR H.n W s.heap vs.toList xs)(hl:intsOf xs=some l)(I:Inv cx W H s)(h:∀v s',dJ cx fV W H s W H s'->Rep H.n W s'.heap v (.i l.sum)->Q v s'):wpAny cx.M A (call (.builtin "sum") [.ref a]) Q E s:=by
 obtain⟨h1,d⟩:=Dw hl q;have hz:vs.toList.length=vs.size:=by simp
 refine call_sum_walkG (wpAny_pyIter_list ho ?_);have c:a<s.heap.objs.size:=by obtain⟨o,e,_⟩:=ho;exact aV e
 refine⟨s.heap.objs.size,_,_,vs.size,_,_,λi=>l.getD i 0,rfl,Walks.list (A:=A.in1) g s.heap.objs.size a () vs,⟨⟨_,bR _ rfl,rfl,rfl⟩,ho.push _⟩,?_,?_,?_⟩
 ·intro b hb;simp at hb;rw[bU];rcases hb with rfl|rfl
  ·lia
  ·lia
 ·exact λj v f=>d j v (by simpa using f)
 ·intro h' tk k hk;rw[zR,List.take_of_length_le (Nat.le_of_eq (by rw[h1,hz]))];exact h _ _ (dJ.grown _ I (λa o e=>(hk a o (by simp;exact aY (aV e)) (aq _ e))) rfl rfl) (.int _ _)
def aew(a:A.handled=none)(hi:i<H.n)(e:H.f i=.l xs)(hl:intsOf xs=some l)(I:Inv cx W H s)(b:∀v s',dJ cx fV W H s W H s'->Rep H.n W s'.heap v (.i l.sum)->Q v s'):wpAny cx.M A (call (.builtin "sum") [.ref (W i)]) Q E s:=by
 obtain⟨vs,k,ho,q⟩:=I.list hi e;exact J9 a (d8 ho) q hl I b
end
section
variable {s:Shared}
noncomputable abbrev fu(h:Heap)(a:Addr)(vs:List Value):Heap:=((h.update a (Obj.mapSeq λU=>(#[]:Array Value))).push (seqObj "tuple" vs.toArray 0)).push (seqObj "list" #[] 0)
theorem v9(ho:s.heap.get? a=some (seqObj "list" vs.toArray n))(c:2<=vs.length/\vs.length<=5)(hk:∀Q:SortKind->Shared->Prop,Q κ {s with heap:=fu s.heap a vs}->wpAny cx.M A (keyKind' vs.toArray) Q E {s with heap:=fu s.heap a vs})(hc:∀(i j:Nat) (C:Bool->Shared->Prop),i<vs.length->j<vs.length->C (lt i j) {s with heap:=fu s.heap a vs}->kas_ask cx.prog cx.w A κ vs i j C {s with heap:=fu s.heap a vs})
  (h:P (.done (.ret .none)) {s with heap:=(fu s.heap a vs).update a (Obj.mapSeq λU=>((ni lt (kas_sort vs.length)).toList.map λi=>vs.getD i .none).toArray)}) :
  wpAny cx.M A (Builtin.«list.sort» ⟨[.ref a],[]⟩) P E s:=by
 obtain⟨m,l⟩:∃m,(s.heap.update a (Obj.mapSeq λU=>(#[]:Array Value))).get? a=some (seqObj "list" #[] m):=⟨_,get?_update_seq ho λU=>#[]⟩;have g:(fu s.heap a vs).get? a=some (seqObj "list" #[] m):=aq _ (aq _ l);have ask:(kas_sort vs.length).kasWp (kas_ask cx.prog cx.w A κ vs) (λp s'=>p=ni lt (kas_sort vs.length)/\s'={s with heap:=fu s.heap a vs}) {s with heap:=fu s.heap a vs}:=
  Aj hc _ (lG c) ⟨rfl,rfl⟩
 have o:(ni lt (kas_sort vs.length)).toList.length=vs.length:=by
  have h1:=Gw (lt:=lt) (f:=okP vs.length) _ (lG c);exact Nat.eq_of_beq_eq_true (aZ h1).1
 rw[list_sort_plain];refine aj (listItems_at ho rfl ?_);refine aj (listUpdate_at ho rfl ?_ (by rw[cg,sizeLine_eq];lia) (bN _));refine aj (seqEpoch_at l rfl ?_);refine aj (wpAny_newTuple ?_ (by show vs.length<=_;rw[sizeLine_eq];lia));refine aj (wpAny_newList ?_ (bN _));refine ao ?_;dsimp only;have d:¬ vs.toArray.size<2:=by rw[cg];lia
 rw[if_neg d,if_neg d];refine aj (hk _ ?_);have run:=kat_run (E:=E) (ks:=vs) (vs:=vs) (Q:=λb s'=>∃p:Array Nat,p.size=vs.length/\arrOf b=p.map (kas_item (vs.toArray.zip vs.toArray))/\failedOf b=none/\(p=ni lt (kas_sort vs.length)/\s'={s with heap:=fu s.heap a vs}))
  rfl c.1 () (λp' b s' q u r t=>⟨p',q,u,r,t⟩) ask
 refine aj (bG run ?_ λU U e=>e)
 rintro ⟨⟨⟩,b⟩ s' ⟨p,hp,har,hf,rfl,rfl⟩
 dsimp only;have l:=kat_snds rfl har;have hsz:(List.toArray ((ni lt (kas_sort vs.length)).toList.map λi=>vs.getD i Value.none)).size<=sizeLine+1:=by rw[cg,aB,o,sizeLine_eq];lia
 rw[l];refine aj (seqEpoch_at g rfl ?_);refine aj (listUpdate_at g rfl ?_ (bN _) hsz);rw[hf];simp only[bne_self_eq_false,Bool.false_eq_true,if_false];exact ak h
theorem zN(r:dR n W h vs xs){p:List Nat}:(∀i∈p,i<xs.length)->dR n W h (p.map λi=>vs.getD i .none) (p.map λi=>xs.getD i .n):=by
 induction p with
 |nil=>exact λU=>.nil
 |cons i p ih=>
  intro hp;have hi:=hp i (.head _);obtain⟨u,a,c⟩:=r.get i (x:=xs.getD i .n) (by rw[bw,bk hi];rfl);refine .cons ?_ (ih λj b=>hp j (.tail _ b));show Rep _ _ _ (vs.getD i Value.none) (xs.getD i .n);rw[bw (l:=vs),a];exact c
end
section
variable {s:Shared}
theorem Cq(ho:s.heap.get? a=some (seqObj "list" vs.toArray n))(g:vs.length<2)(h:P (.done (.ret .none)) {s with heap:=(fu s.heap a vs).update a (Obj.mapSeq λU=>vs.toArray)}) :
  wpAny cx.M A (Builtin.«list.sort» ⟨[.ref a],[]⟩) P E s:=by
 obtain⟨f,d⟩:∃f,(s.heap.update a _).get? a=some (seqObj "list" #[] f):=⟨_,get?_update_seq ho λU=>#[]⟩;have c:(fu s.heap a vs).get? a=some (seqObj "list" #[] f):=aq _ (aq _ d);rw[list_sort_plain];refine aj (listItems_at ho rfl (aj (listUpdate_at ho rfl (aj (seqEpoch_at d rfl ?_)) (by rw[cg];lia) ())));refine aj (wpAny_newTuple (aj (wpAny_newList (ao ?_) ())) ());have b:vs.toArray.size<2:=by rw[cg];lia
 rw[if_pos b,if_pos b];refine aj (ak (aj (ak ?_)));dsimp only;have e:(arrOf (SortSt.mk' general' (vs.toArray.zip vs.toArray) #[] 7 none)).map (·.2)=vs.toArray:=by
  apply Array.toList_inj.mp;simp[List.map_snd_zip]
 rw[e];refine aj (seqEpoch_at c rfl (aj (listUpdate_at c rfl ?_ () ())));simp;exact ak h
def wD{t:Tok}:Looks M h (typeOf (.str x t)) (.type "str"):=.now
def IsP(h:Heap)(x:V)(v:Value):Prop:=Ex6 λa k y z t u=>x=.t [.s y,.s z]/\v=.ref a/\h.get? a=some {cls:=.type "tuple",data:=.seq #[.str y t,.str z u] k}
def Dt(e:isS x=true):∃a,x=.s a:=by
 cases x with
 |s a=>exact⟨a,rfl⟩
 |_=>exact iC e
def IW(e:pP x=true):Ex2 λa b=>x=.t [.s a,.s b]:=by
 cases x with
 |t xs=>
  cases xs with
  |nil=>exact iC e
  |cons x l=>cases l with
   |nil=>exact iC e
   |cons y l=>cases l with
    |nil=>
     obtain⟨d,c⟩:=aZ e;obtain⟨a,rfl⟩:=Dt d;obtain⟨b,rfl⟩:=Dt c;exact⟨a,b,rfl⟩
    |cons=>exact iC e
 |_=>exact iC e
def M9(x:V)(v:Value)(e:pP x=true)(r:Rep n W h v x):IsP h x v:=by
 obtain⟨y,z,rfl⟩:=IW e;obtain⟨a,vs,k,rfl,e,r⟩:=r.pQ;obtain⟨l⟩:=vs;cases r with|cons r1 r=>
 cases r with|cons b r=>
 cases r;obtain⟨t,rfl⟩:=r1.dY;obtain⟨u,rfl⟩:=b.dY;exact⟨a,k,y,z,t,u,rfl,rfl,e⟩
def Gb{t u:Tok}(h:Q (Im x y) s):wpAny cx.M A (oneLt' b (.str x t) (.str y u)) Q E s:=by
 cases b with
 |true=>exact oneLt_str h
 |false=>exact kat_one _ _ (PyProof.Rows.lt_str h)
def jU{a b:Addr}{o:Obj}(e:h.get? b=some o)(hb:b≠a):(fu h a vs).get? b=some o:=
 aq _ (aq _ ((Heap.get?_update_other _ _ (Ne.symm hb)).trans e))
set_option tactic.hygienic true in
theorem xK(ho:s.heap.get? a=some (seqObj "list" vs.toArray n))(r:dR H.n W s.heap vs xs)(hs:jq xs ys)(h:∀h' ws k,Heap.ExtBut a s.heap h'->h'.get? a=some (seqObj "list" ws k)->(∀n W h,dR n W h vs xs->dR n W h ws.toList ys)->P (.done (.ret .none)) {s with heap:=h'}) :
  wpAny cx.M A (Builtin.«list.sort» ⟨[.ref a],[]⟩) P E s:=by
 have I:∀b o,s.heap.get? b=some o->o.cls=.type "tuple"->b≠a:=λb o e hc q=>by
  subst q;rw[ho]at e;cases e;simp[seqObj]at hc
 obtain⟨d,N,rfl⟩:=hs;have hl:=r.length;obtain⟨g,ho1⟩:∃g,(s.heap.update a (Obj.mapSeq λU=>(#[]:Array Value))).get? a=some (seqObj "list" #[] g):=⟨_,get?_update_seq ho λU=>#[]⟩;have fin:∀ws:Array Value,(∀n W h,dR n W h vs xs->dR n W h ws.toList (qK .n ltPair xs))->P (.done (.ret .none)) {s with heap:=(fu s.heap a vs).update a (Obj.mapSeq λU=>ws)}:=λws hw=>by
  obtain⟨k,e⟩:∃k,((fu s.heap a vs).update a (Obj.mapSeq λU=>ws)).get? a=some (seqObj "list" ws k):=⟨_,get?_update_seq (aq _ (aq _ ho1)) λU=>ws⟩;exact h _ ws k (λb o hb e=>(Heap.get?_update_other _ _ (Ne.symm hb)).trans ((λb o hb e=>jU e hb) b o hb e)) e hw
 by_cases L:xs.length<2
 refine Cq ho (hl▸L) (fin _ λn W h r=>?_);rw[show qK .n ltPair xs=xs from if_pos L];exact r
 have m:2<=xs.length/\xs.length<=5:=⟨Nat.le_of_not_lt L,N⟩
 have gd:∀i,i<xs.length->xs.getD i .n∈xs:=λi hi=>by
  rw[bw,bk hi];exact List.getElem_mem hi
 have gr:∀i,i<xs.length->Rep H.n W s.heap (vs.getD i .none) (xs.getD i .n):=λi hi=>by
  obtain⟨u,hu,ru⟩:=r.get i (x:=xs.getD i .n) (by rw[bw,bk hi];rfl);rw[bw (l:=vs),hu];exact ru
 have last:dR H.n W s.heap vs xs->∀n W h,dR n W h vs xs->dR n W h (((ni _ (kas_sort vs.length)).toList.map λi=>vs.getD i .none).toArray).toList (qK .n ltPair xs):=λ_ n W h r=>by
  rw[show qK .n ltPair xs=(qJ .n ltPair xs).map λi=>xs.getD i .n from if_neg L];rw[hl];exact zN r (nM m).2
 rcases d with d|d
 have G:∀i,i<xs.length->Ex6 λp k x y t u=>xs.getD i .n=.t [.s x,.s y]/\vs.getD i .none=.ref p/\(fu s.heap a vs).get? p=some {cls:=.type "tuple",data:=.seq #[.str x t,.str y u] k}:=λi hi=>by
  obtain⟨p,k,x,y,t,u,g,f,F⟩:=M9 _ _ (List.all_eq_true.mp d _ (gd i hi)) (gr i hi);exact⟨p,k,x,y,t,u,g,f,jU F (I _ _ F rfl)⟩
 have K:∀(ws:List Value) (zs:List V),dR H.n W s.heap ws zs->(∀z∈zs,pP z=true)->∃fs:List Value,KatTups (fu s.heap a vs) ws fs/\fs.length=zs.length/\∀v∈fs,Ex2 λx t=>v=.str x t:=λws=>by
  induction ws with
  |nil=>intro zs rz _;cases rz;exact⟨[],.nil,rfl,λU h=>nomatch h⟩
  |cons v ws ih=>
   intro zs rz hz
   cases rz with|cons r1 r2=>
   rename_i z zs;obtain⟨fs,f1,f2,f3⟩:=ih zs r2 λz X=>hz z (.tail _ X);obtain⟨p,k,x,y,t,u,g,f,F⟩:=M9 _ _ (hz z (.head _)) r1;subst f;refine⟨.str x t::fs,.cons (jU F (I _ _ F rfl)) rfl rfl rfl f1,by rw[aO,f2];rfl,λv D=>?_⟩;rcases aA D with rfl|D
   exact⟨x,t,rfl⟩
   exact f3 v D
 obtain⟨fs,f1,f2,f3⟩:=K vs xs r λz hz=>List.all_eq_true.mp d z hz;refine v9 (κ:=tuples' true) ho (by rw[hl];exact m) (λQ w=>?_) (λi j C hi S w=>?_) (fin _ (last r))
 exact kat_kind (T:=.type "str") f1 (by rw[f2];lia) (λv D=>by obtain⟨x,t,rfl⟩:=f3 v D;exact wD) () w
 obtain⟨p,k,x,y,t,u,g,f,F⟩:=G i (hl▸hi);obtain⟨p',k',x',Z,t',u',g1,g2,g3⟩:=G j (hl▸S);show wpAny _ _ _ _ _ _;rw[f,g2];refine kat_lt F rfl g3 rfl ?_;rw[g,g1]at w;have c:C (if x=x' then(if y=Z then false else Im y Z)else Im x x') {s with heap:=fu s.heap a vs}:=w;refine kat_cons (PyProof.Rows.eqBool_str (kat_go (λe=>kat_yes (kat_cons (PyProof.Rows.eqBool_str (kat_go (λe'=>kat_yes (kat_nil ?_)) λe'=>kat_no (Gb ?_))))) λe=>kat_no (Gb ?_)))
 rw[if_pos (beq_iff_eq.mp e),if_pos (beq_iff_eq.mp e')]at c;exact c
 lia
 rw[if_neg (ne_of_beq_false e)]at c;exact c
 have B:∀i,i<xs.length->Ex2 λx t=>xs.getD i .n=.s x/\vs.getD i .none=.str x t:=λi hi=>by
  obtain⟨x,e⟩:=Dt (List.all_eq_true.mp d _ (gd i hi));have hr:=gr i hi;rw[e]at hr;obtain⟨t,f⟩:=hr.dY;exact⟨x,t,e,f⟩
 refine v9 (κ:=oneType') ho (by rw[hl];exact m) (λQ w=>?_) (λi j C hi S w=>?_) (fin _ (last r))
 refine kas_kind (T:=.type "str") (by rw[hl];exact m.1) (λv D=>?_) () () w;obtain⟨i,hi,rfl⟩:=List.mem_iff_getElem.mp D;obtain⟨x,t,g,f⟩:=B i (hl▸hi);rw[bw,bk hi]at f;rw[show vs[i]=.str x t from f];exact wD
 obtain⟨x,t,g,f⟩:=B i (hl▸hi);obtain⟨y,u,g1,g2⟩:=B j (hl▸S);show wpAny _ _ _ _ _ _;rw[f,g2];refine kas_lt_str ?_;rw[g,g1]at w;have c:C (if x=y then false else Im x y) {s with heap:=fu s.heap a vs}:=w;by_cases e:x=y
 rw[if_pos e]at c;rw[e,decide_eq_false (List.lt_irrefl _)];exact c
 rw[if_neg e]at c;exact c
end
section
variable {s:Shared}
theorem dJ.acA(W7)(I:Inv cx W H s)(hi:i<H.n)(c:Heap.ExtBut (W i) s.heap s'.heap)(ho:gH cx.prog cx.w H.n W s'.heap (W i) o) (g:s'.os=s.os) (hb:s'.gens=s.gens):dJ cx W7 W H s W (H.put i o) s':=by
 refine⟨⟨λb o e=>c b o (λq=>?_) (I.keep b o e),g.trans I.os,hb▸I.bare,λj d=>?_,I.inj,I.low,I.st,I.Dd⟩,bT _,λU U=>rfl,λi h1 k=>absurd k (Nat.not_lt.mpr h1),λa o e l U=>c a o (λq=>l i hi q.symm) e,λU U e=>hb▸e⟩
 subst q;rw[I.low i hi]at e;contradiction
 show gH _ _ H.n W _ _ (if j=i then o else H.f j);by_cases h:j=i
 subst h;rw[if_pos rfl];exact ho
 rw[if_neg h];obtain⟨ob,e,_⟩:=(I.objs j d).some;exact(I.objs j d).mono ⟨bT _,λU U=>rfl,λa o e hc=>c a o (λq=>I.m6 e hc i hi q.symm) e⟩ ((c _ _ (λq=>h (I.inj j i d hi q)) e).trans e.symm)
def Kp.extBut(I:Inv cx W H s)(hi:i<H.n)(b:Heap.ExtBut (W i) s.heap s'.heap):Kp H.n W s.heap H.n W s'.heap:=
 ⟨bT _,λU U=>rfl,λa o e hc=>b a o (λq=>I.m6 e hc i hi q.symm) e⟩
theorem YG(hi:i<H.n)(e:H.f i=.l xs)(hl:jq xs ys)(I:Inv cx W H s)(d:∀s',dJ cx fV W H s W (H.put i (.l ys)) s'->Q .none s'):wpAny cx.M A (call (.builtin "list.sort") [.ref (W i)]) Q E s:=by
 obtain⟨vs,k,ho,q⟩:=I.list hi e;exact wpAny_call_entry slot_list_sort ⟨_,ho,rfl⟩ entry_list_sort (xK () q hl λh' ws g b a c=>⟨_,rfl,d _ (dJ.acA _ I hi b ⟨ws,g,a,(c _ _ _ (q.mono (Kp.extBut I hi b)))⟩ rfl rfl)⟩) (args_list_sort _)
theorem nQ{lo:Addr}{ps:List (Str×Value)}:∀{kvs:List (Str×V)} {as:List Addr},ps.map (·.1)=kvs.map (·.1)->dR n W h (ps.map (·.2)) (kvs.map (·.2)) ->
  as.length=ps.length->(∀(j:Nat) (a:Addr),as[j]?=some a->∃key k x,ps[j]?=some (k,x)/\(PySem.strKind prog w).is k key=true/\h.get? a=some {cls:=.type "tuple",data:=.seq #[key,x]}) ->
  dR n W h (as.map Value.ref) (kvs.map λp=>.t [.s p.1,p.2]):=by
 induction ps with
 |nil=>
  intro kvs as c _ hl _;cases List.map_eq_nil_iff.mp c.symm;cases List.length_eq_zero_iff.mp hl;exact .nil
 |cons p ps ih=>
  intro kvs as c r hl g;cases kvs with
  |nil=>lia
  |cons q kvs=>
   cases as with
   |nil=>lia
   |cons a as=>
    obtain⟨k,u⟩:=p;obtain⟨k',v⟩:=q;obtain⟨e,d⟩:=List.cons.inj c;subst e
    cases r with|cons r1 r=>
    obtain⟨key,k2,x,f,m,i⟩:=g 0 a rfl;obtain⟨rfl,rfl⟩:=Prod.mk.inj (bh f);obtain⟨t,rfl⟩:=jx m;exact .cons (.tup i (.cons (.str _ _) (.cons r1 .nil))) (ih d r (Nat.succ.inj hl) λj b l=>g (j+1) b l)
theorem Ot{v:Value}(hh:A.handled=none)(e:H.f i=.d kvs)(hl:jq (kvs.map λp=>.t [.s p.1,p.2]) ys)(I:Inv cx W H s)(rv:Rep H.n W s.heap v (.w i))(hQ:∀v s' ρ',dJ cx fV W H s ρ' (H.alloc (.l ys)) s'->Rep (H.n+1) ρ' s'.heap v (.r H.n)->Q v s'):wpAny cx.M A (call (.builtin "sorted") [v]) Q E s:=by
 obtain⟨hi,r,rfl,hr⟩:=rv.uI;obtain⟨ps,hd,P,q⟩:=I.dict hi e;obtain⟨od,zc,dep,D,N,R,hK,hP,K⟩:=id hd;have hz:ps.length=kvs.length:=by have:=congrArg List.length P;simpa using this
 have Z:=aB _▸(aU hl.few (by decide:5<64));refine Calls.call_function_entry kind_sorted plain_sorted entry_sorted (args_sorted1 _) (aj (ak ?_));refine aj (kdx_collect hh ⟨_,hr,rfl,rfl⟩ ⟨od,zc,D,N,R,hK,hP,K⟩ (by rw[sizeLine_eq];lia) λh' tk as hk hlen V=>?_);have F:∀b o,s.heap.get? b=some o->(h'.push {cls:=.type "list",data:=.seq (as.map Value.ref).toArray}).get? b=some o:=λb o e=>aq _ (hk b o e);refine aj (wpAny_newList ?_ (by rw[aB,sizeLine_eq];lia));have rl:∀g,(∀b o,h'.get? b=some o->g.get? b=some o)->dR H.n W g _ (kvs.map λp=>.t [.s p.1,p.2]):=λg c=>
  nQ (lo:=0) P (q.mono ⟨bT _,λU U=>rfl,λa o e U=>c _ _ (hk _ _ e)⟩) hlen λj a h=>by
   obtain⟨key,k,x,G,C,y⟩:=V.pairs j a h;exact⟨key,k,x,G,C,c _ _ y⟩
 refine aj (ao (wpAny_call_entry slot_list_sort ⟨_,bR _ rfl,rfl⟩ entry_list_sort ?_ (args_list_sort _)));refine xK (bR _ rfl) (rl _ λb o e=>aq _ e) hl λS ws k2 X L B=>⟨_,rfl,ak ⟨_,rfl,?_⟩⟩;have fr:=λb o e=>aY (aV (hk b o e));have z:s.heap.get? h'.objs.size=none:=by
  cases e:s.heap.get? h'.objs.size with
  |none=>rfl
  |some o=>exact absurd rfl (fr _ _ e)
 have u:=λb o e=>X b o (fr b o e) (F b o e);refine hQ _ _ _ (dJ.new _ I z (I.neX hk) u ⟨ws,k2,L,?_⟩ rfl rfl) gq;have rr:=nQ (lo:=0) P (q.mono ⟨bT _,λU U=>rfl,λa o e U=>u _ _ e⟩) hlen λj a h=>by
   obtain⟨key,k,x,G,C,y⟩:=V.pairs j a h;exact⟨key,k,x,G,C,X _ _ (aY (aV y)) (aq _ y)⟩
 exact(B _ _ _ rr).mono ⟨cF _,λj h=>if_neg (),λU U e U=>e⟩
theorem Jd(_:A.handled=none)(hi:i<H.n)(e:H.f i=.l xs)(hl:jq xs ys)(I:Inv cx W H s)(G:∀v s' ρ',dJ cx fV W H s ρ' (H.alloc (.l ys)) s'->Rep (H.n+1) ρ' s'.heap v (.r H.n)->Q v s'):wpAny cx.M A (call (.builtin "sorted") [.ref (W i)]) Q E s:=by
 obtain⟨⟨vs⟩,k,ho,q⟩:=I.list hi e;have F:=q.length;have K:=hl.few;refine Calls.call_function_entry kind_sorted plain_sorted entry_sorted (args_sorted1 _) ?_;refine aj (ak ?_);refine aj (collect_list ⟨_,ho,rfl,_,rfl⟩ (aj (wpAny_newList ?_ (by rw[sizeLine_eq];lia))) (by rw[sizeLine_eq];lia));generalize g:(s.heap.push _).update s.heap.objs.size (Obj.mapSeq _)=h1
 have k1:∀b o,s.heap.get? b=some o->h1.get? b=some o:=λb o q=>by
  have h:=aV q;rw[<- g,Heap.get?_update_ne _ _ _ _ (),Heap.get?_push_ne _ _ _ (aY h)];exact q
 have k2:∀b o,s.heap.get? b=some o->(h1.push (seqObj "list" vs.toArray 0)).get? b=some o:=λb o q=>aq _ (k1 b o q);have p:(h1.push _).get? h1.objs.size=some (seqObj "list" vs.toArray 0):=bR _ rfl;have y:∀c,(∀b o,s.heap.get? b=some o->c.get? b=some o)->dR H.n W c vs xs:=λc hk=>q.mono ⟨bT _,λU U=>rfl,λa o e U=>hk a o e⟩;refine aj (ao (wpAny_call_entry slot_list_sort ⟨_,p,rfl⟩ entry_list_sort (xK p (y _ k2) hl λz ws x D u w=>⟨_,rfl,ak ⟨_,rfl,?_⟩⟩) (args_list_sort _)));have fr:=λb o e=>aY (aV (k1 b o e));have t:s.heap.get? h1.objs.size=none:=by
  cases e:s.heap.get? h1.objs.size with
  |none=>rfl
  |some o=>exact absurd rfl (fr _ _ e)
 have d:=λb o e=>D b o (fr b o e) (k2 b o e);exact G _ _ _ (dJ.new _ I t (I.neX k1) d ⟨ws,x,u,((w _ _ _ (y _ d)).mono ⟨cF _,λj B=>if_neg (),λU U e U=>e⟩)⟩ rfl rfl) gq
def Kc:∀{l:List (Str×Tok)} {xs:List Str},l.map (·.1)=xs->dR n W h (strValues l) (xs.map .s)
 :=by
 intro l
 induction l with
 |nil=>intro xs e;subst e;exact .nil
 |cons p l ih=>intro xs e;subst e;exact .cons (.str _ _) (ih rfl)
open Builtin Builtin.Str in
theorem TF{x:Str}{k:Int}{t u v:Tok}{Q:Value->Shared->Prop}(d:y.length≠0)(e:x.length+2<=lim)(hk:0<=k/\k<1000)(c:∀(l:List (Str×Tok)) tk,l.map (·.1)=Txt.splitMax x y k->Q (.ref s.heap.objs.size) {s with heap:=s.heap.push {cls:=.type "list",data:=.seq (strValues l).toArray},toks:=tk}) :
  wpAny cx.M A (call (.builtin "str.split") [.str x t,.str y u,.int k v]) Q E s:=by
 have b:(y.length==0)=false:=by lia
 have a:(decide (k < -(2 ^ 63:Int))||decide (k>=2 ^ 63))=false:=by simp;lia
 have hz:x.length+2<=sizeLine:=by rw[<- o7];exact e
 have f:(partsBetween x (occurrences x y 0 x.length (limitOf x k)) y.length).length<=sizeLine:=by
  have g:=StrLaws.occ_length_le_len x y 0 x.length (limitOf x k);rw[length_partsBetween];lia
 cases h1:(decide (x.length<y.length)||decide (Builtin.Str.strKind x<Builtin.Str.strKind y))
 cases hf:(occurrences x y 0 x.length _).isEmpty
 refine call_meets F.slot_str_split rfl F.entry_str_split (F.args_str_split_3 _ _ _) (meets_str_split_sep_max x y k t u v a h1 b hf () f) ?_;rw[strsFrom_eq];exact c _ _ ((numbered_texts _ _).trans ((if_neg ()).trans ()).symm)
 exact call_meets F.slot_str_split rfl F.entry_str_split (F.args_str_split_3 _ _ _) (meets_str_split_max_not_found x y k t u v a h1 b hf)
  (c [(x,t)] s.toks ((if_neg ()).trans (if_pos hf)).symm)
 exact call_meets F.slot_str_split rfl F.entry_str_split (F.args_str_split_3 _ _ _) (meets_str_split_max_cannot_occur x y k t u v a h1)
  (c [(x,t)] s.toks (if_pos h1).symm)
open Builtin Builtin.Str in
theorem Nx{x:Str}{t u:Tok}{Q:Value->Shared->Prop}(c:y.length≠0)(d:x.length+2<=lim)(b:∀(l:List (Str×Tok)) tk,l.map (·.1)=Txt.split x y->Q (.ref s.heap.objs.size) {s with heap:=s.heap.push {cls:=.type "list",data:=.seq (strValues l).toArray},toks:=tk}) :
  wpAny cx.M A (call (.builtin "str.split") [.str x t,.str y u]) Q E s:=by
 have a:(y.length==0)=false:=by lia
 have hz:x.length+2<=sizeLine:=by rw[<- o7];exact d
 have e:(partsBetween x (occurrences x y 0 x.length (x.length+1)) y.length).length<=sizeLine:=by
  have f:=StrLaws.occ_length_le_len x y 0 x.length (x.length+1);rw[length_partsBetween];lia
 cases h1:(decide (x.length<y.length)||decide (Builtin.Str.strKind x<Builtin.Str.strKind y))
 cases hf:(occurrences x y 0 x.length _).isEmpty
 refine call_meets F.slot_str_split rfl F.entry_str_split (F.args_str_split_2 _ _) (meets_str_split_sep x y t u h1 a hf () e) ?_;rw[strsFrom_eq];exact b _ _ ((numbered_texts _ _).trans ((if_neg ()).trans ()).symm)
 exact call_meets F.slot_str_split rfl F.entry_str_split (F.args_str_split_2 _ _) (meets_str_split_not_found x y t u h1 a hf)
  (b [(x,t)] s.toks ((if_neg ()).trans (if_pos hf)).symm)
 exact call_meets F.slot_str_split rfl F.entry_str_split (F.args_str_split_2 _ _) (meets_str_split_cannot_occur x y t u h1)
  (b [(x,t)] s.toks (if_pos h1).symm)
open Builtin Builtin.Str in
theorem Ny{x:Str}{k:Int}{t u v:Tok}{Q:Value->Shared->Prop}(d:y.length≠0)(e:x.length+2<=lim)(hk:0<=k/\k<1000)(c:∀(l:List (Str×Tok)) tk,l.map (·.1)=Txt.rsplitMax x y k->Q (.ref s.heap.objs.size) {s with heap:=s.heap.push {cls:=.type "list",data:=.seq (strValues l).toArray},toks:=tk}) :
  wpAny cx.M A (call (.builtin "str.rsplit") [.str x t,.str y u,.int k v]) Q E s:=by
 have b:(y.length==0)=false:=by lia
 have a:(decide (k < -(2 ^ 63:Int))||decide (k>=2 ^ 63))=false:=by simp;lia
 have hz:x.length+2<=sizeLine:=by rw[<- o7];exact e
 have f:(partsBetween x (occurrencesFromRight x y (limitOf x k)) y.length).length<=sizeLine:=by
  have g:=StrLaws.occR_length_le_len x y (limitOf x k);rw[length_partsBetween];lia
 cases h1:(decide (x.length<y.length)||decide (Builtin.Str.strKind x<Builtin.Str.strKind y))
 cases hf:(occurrencesFromRight x y _).isEmpty
 refine call_meets F.slot_str_rsplit rfl F.entry_str_rsplit (F.args_str_rsplit_3 _ _ _) (meets_str_rsplit_sep_max x y k t u v a h1 b hf () f) ?_;rw[strsFrom_eq];exact c _ _ ((numbered_texts _ _).trans ((if_neg ()).trans ()).symm)
 exact call_meets F.slot_str_rsplit rfl F.entry_str_rsplit (F.args_str_rsplit_3 _ _ _) (meets_str_rsplit_max_not_found x y k t u v a h1 b hf)
  (c [(x,t)] s.toks ((if_neg ()).trans (if_pos hf)).symm)
 exact call_meets F.slot_str_rsplit rfl F.entry_str_rsplit (F.args_str_rsplit_3 _ _ _) (meets_str_rsplit_max_cannot_occur x y k t u v a h1)
  (c [(x,t)] s.toks (if_pos h1).symm)
def zX{xs:List Str}{tk:Nat}{Q:Value->Shared->Prop}(I:Inv cx W H s)(e:l.map (·.1)=xs)(a:∀v s' ρ',dJ cx fV W H s ρ' (H.alloc (.l (xs.map .s))) s'->Rep (H.n+1) ρ' s'.heap v (.r H.n)->Q v s'):Q (.ref s.heap.objs.size) {s with heap:=s.heap.push {cls:=.type "list",data:=.seq (strValues l).toArray},toks:=tk}:=
 a _ _ _ (dJ.new _ I (fC _) I.Ij (λU U e=>aq _ e) ⟨_,_,bR _ rfl,Kc e⟩ rfl rfl) gq
end
section
variable {pe:Pe} {n:Nat} {x:V}
def MN(P:eY pe cx)(I:Inv cx W H s):cx.K.In s.heap:=P.kin.keeps I.keep
theorem Mz(P:eY pe cx){g:V}(I:Inv cx W H s)(c:Hr H.n W s.heap fv first g)(hc:callable pe g=true):Kpr cx fv s:=by
 have fn:∀{a:Addr} {fd:FuncData},pe.fn a=some fd->∀{A:Around} {Q:Keeper->Shared->Prop} {E:Value->Shared->Prop},(∀k,Q k s)->wpAny cx.M A (keeperOf (.ref a)) Q E s:=λ{a fd} hf {A Q E} d=>by
  obtain⟨o,ho,hd⟩:=(P.fn hf).obj;exact aj (wpAny_load (I.keep _ _ ho) (hd▸ak (d _)))
 induction c using Hr.casesOn with
 |bm _=>exact λA Q E d=>ak (d _)
 |mt _=>
  obtain⟨fd,hf⟩:=Option.isSome_iff_exists.mp hc;exact λA Q E d=>fn hf d
 |obj h=>
  induction h using Rep.casesOn with
  |none=>lia
  |bool=>lia
  |int=>lia
  |str=>lia
  |ref=>lia
  |tup=>lia
  |view=>lia
  |rng=>lia
  |bf b=>intro A Q E d;obtain⟨t,n,_⟩:=b;cases t <;> exact ak (d _)
  |bm hp e q=>
   intro A Q E d;exact aj (wpAny_load e (ak (d _)))
  |fn a=>
   rcases Bool.or_eq_true_iff.mp hc with hc|hc
   ·obtain⟨fd,hf⟩:=Option.isSome_iff_exists.mp hc;exact λA Q E d=>fn hf d
   ·obtain⟨g,f⟩:=Option.isSome_iff_exists.mp hc;have M:=makes_of (M:=cx.M) (MN P I) (P.init f).1;obtain⟨i,od,cd,sl,ho,_⟩:=M.obj;intro A Q E d;exact aj (wpAny_load ho (aj (M.call.here (ak (d _)))))
  |mt e q=>
   obtain⟨fd,hf⟩:=Option.isSome_iff_exists.mp hc;obtain⟨o,ho,hd⟩:=(P.fn hf).obj;intro A Q E d;exact aj (wpAny_load e (aj (wpAny_load (I.keep _ _ ho) (ak (d _)))))
def Hr.step(I:Inv cx W H s)(S:dJ cx fV W H s ρ' H' s'){fv first g}(c:Hr H.n W s.heap fv first g):Hr H'.n ρ' s'.heap fv first g:=by
 induction c using Hr.casesOn with
 |obj a=>exact .obj (S.rep I a)
 |mt a=>exact .mt (S.rep I a)
 |bm a=>exact .bm (S.rep I a)
def s7{o:Expr}{m:Sem Value}(h:jX o=false):attributeBase o name T m=m:=by
 cases o with
 |Call f a k p=>cases f with
  |Name id q=>cases a with
   |nil=>cases k with
    |nil=>
     have hid:(!(id==("super":Str)))=true:=congrArg _ h;show(if(!(id==("super":Str))||_||_||_)=true then m else _)=m;rw[hid];rfl
    |cons=>rfl
   |cons=>rfl
  |_=>rfl
 |_=>rfl
theorem kO(P:eY pe cx){g:V}{args:List Expr}(hc:callable pe g=true) (h1:GL cx n O J args H xs H1) (d:Qu cx n O J kws H1 kx H2) (h3:gV cx n g xs kx H2 x H')(C:Cn cx n O J H A T W s) (c:Hr H.n W s.heap fv first g) (j:∀v s' ρ',dJ cx fV W H s ρ' H' s'->Rep H'.n ρ' s'.heap v x->Q v s'):wpAny cx.M A (callWith pos fv first (backTo pos (starEach args T)) (backToKw pos (keywordEach kws T))) Q E s:=
 jy (uR h1 d C λa s1 gw b f e=>⟨Mz P b.inv (c.step C.inv b) hc,h3 C.ar b.inv (c.step C.inv b) f e λv s2 je h i=>j v s2 je (b.trans h) i⟩)
def Oo{args:List (Bool×Sem Value)}{kws:List (Option Str×Sem Value)}(h1:args.all (λp=>!p.1)=true)(a:kws.all (·.1.isSome)=true)(h:k<=25):methodCallForm k args kws=true:=by
 unfold methodCallForm
 split <;> lia
def CX{o:Expr}(hl:apos.endLine=pos.line):methodCallPos true o T apos pos=pure pos:=by
 unfold methodCallPos;rw[hl];simp
theorem yH(P:eY pe cx){o:Expr}{args:List Expr}{u g:V}(hp:apos.endLine=pos.line)(j:jX o=false)(hl:args.length+kws.length<=25)(h1:GE cx n O J o H u H1) (h:attr pe H1 name u=some g) (hc:callable pe g=true) (d:GL cx n O J args H1 xs H2) (h3:Qu cx n O J kws H2 kx H3) (m:gV cx n g xs kx H3 x H'):GE cx (n+1) O J (.Call (.Attribute o name apos) args kws pos) H x H':=λA T W s Q E C p=>by
 rw[arm_eval_Call,s7 j];refine aj (h1 C.low λi s1 gw a r1=>aj (aW ?_));unfold methodCall;rw[Oo (d.1 pos T) (h3.1 pos T).1 hl];refine aj (ao (zK P h a.inv r1 λf first s2 e c=>?_));rw[CX hp];exact aj (ak (kO P hc d h3 m ((C.low.step a).step e) c λv s3 b l k=>p v s3 b ((a.trans e).trans l) k))
def G6(P:eY pe cx){args:List Expr}{g:V}(b:look pe O J f=some g)(hc:callable pe g=true)(a:GL cx n O J args H xs H2)(h3:Qu cx n O J kws H2 kx H3)(d:gV cx n g xs kx H3 x H'):GE cx (n+1) O J (.Call (.Name f fp) args kws pos) H x H':=λA T W s Q E C e=>
 wpAny_Call_ofName (jJ P b C.en C.inv C.vars λfv c=>kO P hc a h3 d C.low (.obj c) e)
end
structure Qg (params:Arguments) (body:Expr) (scope:Scope):Prop where
 ex:Ex9 λann np ap cp k1 p1 k2 p2 more=>params=⟨[],[⟨"n",none,ann⟩],none,[],[],none,[]⟩/\body=.Call (.Attribute (.Name "n" np) "split" ap) [.Constant (.str brace) k1 p1,.Constant (.int 1) k2 p2] [] cp /\
  scope=⟨.function,[("n",.local)],false,false,more⟩/\ap.endLine=cp.line
def Pz{body:Expr}{O:Scope}{pm v:Value}:bindArgs (kla_fn "<lambda>" q ⟨[],[⟨"n",none,a⟩],none,[],[],none,[]⟩ body O [] pm cv ct) ⟨[v],[]⟩=pure [((Str.ofString "n"),v)]:=by
 first|rfl|kernel_rfl
section
variable {s:Shared}
theorem Lx{o:Expr}{args:List Expr}{t:Tok}{id:String}(slot:Slot "str" name id)(ty:typeOf (.builtin id)=pure (.type "method_descriptor"))(h:jX o=false)(c:methodCallForm (args.length+([]:List Keyword).length) (backTo pos (starEach args T)) (backToKw pos (keywordEach [] T))=true) (hl:apos.endLine=pos.line)(ho:wpAny cx.M A (eval o T) (λv b=>v=.str x t/\wpAny cx.M A (evalArgs (.builtin id) true (backTo pos (starEach args T)) (backToKw pos (keywordEach [] T))) (λa d=>wpAny cx.M A (call (.builtin id) ([.str x t]++a.pos) a.kw) Q E d) E b) E s):wpAny cx.M A (eval (.Call (.Attribute o name apos) args [] pos) T) Q E s:=by
 rw[arm_eval_Call,s7 h];refine aj (bG ho (λv s1 h1=>aj (aW ?_)) λU U e=>e);obtain⟨e,h1⟩:=h1;have key:∀(pl:Sem Bool) (Q':Value×List Value->Shared->Prop),Q' _ s1->wpAny cx.M A (getMethod v name pl) Q' E s1:=λpl Q' g=>by
  rw[e];with_reducible exact DN slot ty g
 unfold methodCall;rw[c];refine aj (ao (key _ _ (aj ?_)));have ep:methodCallPos true o T apos pos=pure pos:=by
  unfold methodCallPos;rw[hl];simp
 rw[ep];refine ak (jy (bG h1 (λa s2 f=>⟨?_,f⟩) λU U e=>e));intro A Q E i;exact ak (i _)
theorem Mu(m:s.heap.NoLimit)(z:A.depth+2<1000){body:Expr}{pm:Value}(L:Qg params body scope)(ho:s.heap.get? fa=some {cls:=.type "function",data:=.func (kla_fn "<lambda>" q params body scope [] pm cv ct)}) (hc:s.heap.CodeRec cv q)  {t:Tok} (r:x.length+2<=lim) (p:∀(l:List (Str×Tok)) (s':Shared) (a:Addr),l.map (·.1)=nameKey x->(∀b o,s.heap.get? b=some o->s'.heap.get? b=some o)->s.heap.get? a=none->s'.heap.get? a=some {cls:=.type "list",data:=.seq (strValues l).toArray}->s'.os=s.os->s'.gens=s.gens->Q (.ref a) s') :
  wpAny cx.M A (call (.ref fa) [.str x t]) Q E s:=by
 obtain⟨v,np,ap,B,k1,p1,k2,p2,c,rfl,rfl,rfl,n⟩:=L.ex;refine wpAny_call (kla_callFunE (by simp only[recursionLimit];lia) ho rfl rfl rfl rfl hc ?_);rw[Pz];refine ak (wpAny_newFunctionEnv (by simp) (by simp) (λh₁ f g=>⟨m.fresh _ g,?_⟩) rfl);have d:=λb o e=>g.extBut b o (aY (aV e)) (aq _ e);refine kla_codeExpr ?_;have j:(newEnv ⟨.function,[("n",.local)],false,false,c⟩ s.heap.objs.size mainGlobals [] (q++".<locals>.") (some fa) cv none builtinsNs).kindOf "n"=some .local:=rfl;have h:(newEnv ⟨.function,[("n",.local)],false,false,c⟩ s.heap.objs.size mainGlobals [] (q++".<locals>.") (some fa) cv none builtinsNs).scope.kind=.function:=rfl;have i:(newEnv ⟨.function,[("n",.local)],false,false,c⟩ s.heap.objs.size mainGlobals [] (q++".<locals>.") (some fa) cv none builtinsNs).locals=s.heap.objs.size:=rfl;generalize newEnv ⟨.function,[("n",.local)],false,false,c⟩ s.heap.objs.size mainGlobals [] _ _ cv none builtinsNs=T at j h i ⊢;rw[<- i]at f;have u:([((Str.ofString "n"),Value.str x t)]:List _).reverse.lookup (Str.ofString "n")=some (.str x t):=by simp
 refine Lx F.slot_str_split F.type_str_split rfl rfl n (wpAny_Name (wpAny_loadName_local h j f u ⟨rfl,?_⟩) rfl);refine evalArgs_kw2 rfl ?_;have y:∀{s':Shared} {Q':Value->Shared->Prop} {E'},Q' _ {s' with toks:=s'.toks+1}->wpAny cx.M (A.deeper T) (eval (.Constant (.str brace) k1 p1) T) Q' E' s':=λk=>by
  exact λU U U=>k
 have w:∀{s':Shared} {Q':Value->Shared->Prop} {E'},Q' _ {s' with toks:=s'.toks+1}->wpAny cx.M (A.deeper T) (eval (.Constant (.int 1) k2 p2) T) Q' E' s':=λk=>by
  exact λU U U=>k
 refine Calls.spliced_cons (y (Calls.spliced_cons (w (Calls.spliced_nil (kwAll_nil ?_)))));refine TF () r () λl tk hl=>p l _ _ hl (λb o e=>aq _ (d b o e)) ?_ (bR _ rfl) rfl rfl;cases e:s.heap.get? h₁.objs.size with
 |none=>rfl
 |some o=>exact absurd (aV (d _ _ e)) ()
end
section
variable {s:Shared}
theorem Sw{a b:Addr}{l m:List (Str×Tok)}(g:s.heap.get? a=some {cls:=.type "list",data:=.seq (strValues l).toArray j})(hb:s.heap.get? b=some {cls:=.type "list",data:=.seq (strValues m).toArray k}):∀(n i:Nat),i+n=l.length->R (.ok (.ret (.bool (ltK ((l.drop i).map (·.1)) ((m.drop i).map (·.1)))))) s ->
   codeAny cx.M A (.builtin "list.__eq__.loop" ⟨[.ref a,.ref b,rawInt i,rawInt 0],[]⟩) R s:=by
 have f:∀(l:List (Str×Tok)) (i:Nat),(strValues l).toArray[i]?=(l[i]?).map λp=>Value.str p.1 p.2:=λl i=>by rw[jR];simp
 have u:∀(l:List (Str×Tok)),(strValues l).toArray.size=l.length:=λl=>by rw[jR];simp
 intro n
 induction n with
 |zero=>
  intro i t h;refine bJ MeetsSeq3.entry_eq_loop ?_;have o:i<=l.length:=Nat.le_of_eq t;have hi:l.length<=i:=Nat.le_of_eq t.symm;dsimp only[rawInt];refine aj (listItems_at g rfl (aj (listItems_at hb rfl ?_)));rw[show(strValues l).toArray[((i:Nat):Int).toNat]?=none by rw[Int.toNat_natCast,f,List.getElem?_eq_none hi];rfl];refine aj (listItems_at g rfl (aj (listItems_at hb rfl ?_)));refine ak ?_;show R (.ok (.ret (.bool (decide _)))) s;rw[u,u];rw[List.drop_eq_nil_of_le hi,List.map_nil]at h;cases c:m.drop i with
  |nil=>
   rw[c]at h;have:m.length<=i:=List.drop_eq_nil_iff.mp c;rw[(decide_eq_false (Nat.not_lt.mpr (aK this o)))];exact h
  |cons p q=>
   rw[c]at h;have:i<m.length:=by
    rcases Nat.lt_or_ge i m.length with h|h
    exact h
    rw[List.drop_eq_nil_of_le h]at c;first|contradiction|cases c
   rw[(decide_eq_true (aU hi this))];exact h
 |succ n ih=>
  intro i t h;have d:i<l.length:=t▸Nat.lt_add_of_pos_right (Nat.succ_pos n);refine bJ MeetsSeq3.entry_eq_loop ?_;dsimp only[rawInt];refine aj (listItems_at g rfl (aj (listItems_at hb rfl ?_)));rw[List.drop_eq_getElem_cons d,cC]at h;by_cases r:i<m.length
  rw[List.drop_eq_getElem_cons r,cC]at h;have el:(strValues l).toArray[((i:Nat):Int).toNat]?=some (.str l[i].1 l[i].2):=by rw[Int.toNat_natCast,f,bk d];rfl
  have em:(strValues m).toArray[((i:Nat):Int).toNat]?=some (.str m[i].1 m[i].2):=by rw[Int.toNat_natCast,f,bk r];rfl
  rw[el,em];refine aj (PyProof.Rows.eqBool_str ?_);replace h:R (.ok (.ret (.bool (if l[i].1=m[i].1 then ltK _ _ else Im _ _)))) s:=h;by_cases v:l[i].1=m[i].1
  rw[if_pos v]at h;refine wiT (beq_iff_eq.mpr v) (ak ⟨bI MeetsSeq3.plain_eq_loop _,ih (i+1) ((Nat.succ_add_eq_add_succ i n).trans t) h⟩)
  refine VJ (ne_true_of_eq_false (bB v)) ?_;refine aj (listItems_at g rfl (aj (listItems_at hb rfl ?_)));rw[if_neg v]at h;rw[el,em];exact aj (PyProof.Rows.lt_str (ak h))
  have c:m.length<=i:=by lia
  rw[List.drop_eq_nil_of_le c]at h;rw[show(strValues l).toArray[((i:Nat):Int).toNat]?=some (.str l[i].1 l[i].2)by rw[Int.toNat_natCast,f,bk d];rfl,show(strValues m).toArray[((i:Nat):Int).toNat]?=none by rw[Int.toNat_natCast,f,List.getElem?_eq_none c];rfl];refine aj (listItems_at g rfl (aj (listItems_at hb rfl ?_)));refine ak ?_;show R (.ok (.ret (.bool (decide _)))) s;rw[u,u,show decide (l.length<m.length)=false by simp;lia];exact h
theorem Sx{a b:Addr}{l m:List (Str×Tok)}(f:A.units<cLine)(e:s.heap.get? a=some {cls:=.type "list",data:=.seq (strValues l).toArray j})(hb:s.heap.get? b=some {cls:=.type "list",data:=.seq (strValues m).toArray k})(h:Q (ltK (l.map (·.1)) (m.map (·.1))) s):wpAny cx.M A (keyLt' oneType' (.ref a) (.ref b)) Q E s:=by
 have c:s.TypeIs (.ref a) "list":=⟨_,e,rfl⟩;refine aj (wpAny_cRoomFor f (aj (wpAny_callSpecialIfBound?_slot c F.slot_list_lt ?_)));refine wpAny_call (codeAny_call_builtin F.slot_list_lt.plain F.entry_list_lt (F.slot_list_lt.check _ _ _ _ _ _ _ _ c (F.args_list_lt_2 _ _) ?_));show wpAny _ _ (isInstance _ _ >>=λt=>if(!t)=true then ret .notImplemented else again _) _ _ _;exact aj (wpAny_isInstance ⟨_,hb,rfl⟩ AutoSeq1.sub_list_list (ak ⟨bI MeetsSeq3.plain_eq_loop _,Sw e hb _ 0 (Nat.zero_add _) (wpAny_truthy_bool h)⟩))
end
def LC{xs:List Str}{p:List Nat}(h:∀i∈p,i<xs.length):(p.map λi=>(xs.map V.s).getD i .n)=(p.map λi=>xs.getD i cJ).map .s:=by
 rw[aR];refine cP λi hi=>?_;show(xs.map V.s).getD i .n=.s (xs.getD i cJ);rw[bw,bW,bw,bk (h i hi)];rfl
section
variable {s:Shared}
def jr(h:Heap):List Value->List Str->Prop
 |[],[]=>True
 |k::ks,x::xs=>(Ex2 λb l=>k=.ref b/\h.get? b=some {cls:=.type "list",data:=.seq (strValues l).toArray}/\l.map (·.1)=nameKey x)/\jr h ks xs
 |_,_=>False
theorem jr.keep(kS:Addr)(hk:∀b o,b≠kS->h.get? b=some o->h'.get? b=some o):∀{xs},(∀k∈ks,k≠Value.ref kS)->jr h ks xs->jr h' ks xs:=by
 induction ks with
 |nil=>exact λ{xs} U r=>(by induction xs using List.casesOn with
  |nil=>lia
  |cons x xs=>exact r.elim)
 |cons k ks ih=>intro xs c r;induction xs using List.casesOn with
  |nil=>lia
  |cons x xs=>
   obtain⟨⟨b,l,d,f,e⟩,r⟩:=r;exact⟨⟨b,l,d,hk b _ (λq=>c k (.head _) (by rw[d,q])) f,e⟩,ih (λg a=>c g (.tail _ a)) r⟩
theorem jr.snoc{b:Addr}(e2:h.get? b=some {cls:=.type "list",data:=.seq (strValues l).toArray})(e3:l.map (·.1)=nameKey x):∀{ks xs},jr h ks xs->jr h (ks++[.ref b]) (xs++[x])
 :=by
 intro ks
 induction ks with
 |nil=>intro xs h;induction xs using List.casesOn with
  |nil=>exact⟨⟨b,l,rfl,e2,e3⟩,trivial⟩
  |cons _ _=>exact h.elim
 |cons k ks ih=>intro xs h;induction xs using List.casesOn with
  |nil=>exact h.elim
  |cons _ _=>exact⟨h.1,ih h.2⟩
def jr.length:∀{ks xs},jr h ks xs->ks.length=xs.length
 :=by
 intro ks
 induction ks with
 |nil=>intro xs h;induction xs using List.casesOn with
  |nil=>rfl
  |cons _ _=>lia
 |cons k ks ih=>intro xs h;induction xs using List.casesOn with
  |nil=>lia
  |cons _ _=>exact congrArg _ (ih h.2)
theorem jr.get:∀{xs},jr h ks xs->∀i,i<ks.length->Ex2 λb l=>ks.getD i .none=.ref b/\h.get? b=some {cls:=.type "list",data:=.seq (strValues l).toArray}/\l.map (·.1)=nameKey (xs.getD i cJ):=by
 induction ks with
 |nil=>exact λU i hi=>absurd hi (Nat.not_lt_zero i)
 |cons k ks ih=>intro xs r i hi;induction xs using List.casesOn with
  |nil=>lia
  |cons x xs=>induction i using Nat.casesOn with
   |zero=>exact r.1
   |succ i=>exact ih r.2 i (Nat.lt_of_succ_lt_succ hi)
def oR:List Value->List Str->Prop
 |[],[]=>True
 |v::vs,x::xs=>(∃t,v=.str x t)/\oR vs xs
 |_,_=>False
def oR.rep:∀{vs xs},oR vs xs->dR n W h vs (xs.map .s):=by
 intro vs
 induction vs with
 |nil=>
  intro xs r
  induction xs using List.casesOn with
  |nil=>exact .nil
  |cons x xs=>lia
 |cons v vs ih=>
  intro xs r
  induction xs using List.casesOn with
  |nil=>lia
  |cons x xs=>
   obtain⟨⟨t,e⟩,r⟩:=r;subst e;exact .cons (.str _ _) (ih r)
def oR.length:∀{vs xs},oR vs xs->vs.length=xs.length:=by
 intro vs
 induction vs with
 |nil=>
  intro xs r
  induction xs using List.casesOn with
  |nil=>rfl
  |cons x xs=>lia
 |cons v vs ih=>
  intro xs r
  induction xs using List.casesOn with
  |nil=>lia
  |cons x xs=>exact congrArg _ (ih r.2)
structure mF (h:Heap) (fa:Addr):Prop where
 ex:Ex7 λparams body scope q pm cv ct=>Qg params body scope/\h.get? fa=some {cls:=.type "function",data:=.func (kla_fn "<lambda>" q params body scope [] pm cv ct)}/\BL h cv q
theorem mF.call(L:mF s.heap fa)(d:s.heap.NoLimit)(e:A.depth+2<1000){t:Tok}(k:x.length+2<=lim)(m:∀(l:List (Str×Tok)) (s':Shared) (a:Addr),l.map (·.1)=nameKey x->(∀b o,s.heap.get? b=some o->s'.heap.get? b=some o)->s.heap.get? a=none->s'.heap.get? a=some {cls:=.type "list",data:=.seq (strValues l).toArray}->s'.os=s.os->s'.gens=s.gens->Q (.ref a) s') :
  wpAny cx.M A (call (.ref fa) [.str x t]) Q E s:=by
 obtain⟨params,body,scope,q,pm,cv,ct,h1,g,c,o,vs,t,f,j,n,i,h⟩:=L.ex;exact Mu d e h1 g ⟨c,o,vs,t,f,j,i,h⟩ k m
def mF.keep(L:mF h fa)(hk:∀b o,b≠kS->h.get? b=some o->h'.get? b=some o)(hl:∃o,h.get? kS=some o/\o.cls=.type "list"):mF h' fa:=by
 obtain⟨l,d,a⟩:=hl;obtain⟨params,body,scope,q,pm,cv,ct,h1,e,c,o,vs,t,i,g,f,k,j⟩:=L.ex;exact⟨params,body,scope,q,pm,cv,ct,h1,hk _ _ () e,c,o,vs,t,i,hk _ _ () g,f,k,j⟩
def mF.keeps(L:mF h fa)(hk:∀b o,h.get? b=some o->h'.get? b=some o):mF h' fa:=by
 obtain⟨params,body,scope,q,pm,cv,ct,h1,d,c,o,vs,t,a,i,e,g,f⟩:=L.ex;exact⟨params,body,scope,q,pm,cv,ct,h1,hk _ _ d,c,o,vs,t,a,hk _ _ i,e,g,f⟩
theorem IK(S:A.depth+2<1000){body:Value->PUnit->Sem (ForInStep PUnit)}(hb:∀x (s:Shared) (R:ForInStep PUnit->Shared->Prop),wpAny cx.M A (call (.ref fa) [x]) (λk s'=>Ex2 λks e=>s'.heap.get? kS=some (seqObj "list" (List.toArray ks) e)/\ks.length<64/\R (.yield ⟨⟩) {s' with heap:=s'.heap.update kS (Obj.mapSeq (·.push k))}) (λU U=>False) s->wpAny cx.M A (body x ⟨⟩) R E s)
   (z:∀h:Heap,(∀b o,b≠kS->s₀.heap.get? b=some o->h.get? b=some o)->h.NoLimit) :
  ∀(vs:List Value) (xs done:List Str) (ks:List Value) (e:Nat) (s:Shared) {Q:PUnit->Shared->Prop},oR vs xs->(∀x∈xs,x.length+2<=lim)->done.length+xs.length<64->jr s.heap ks done->(∀k∈ks,k≠Value.ref kS)->s.heap.get? kS=some (seqObj "list" (List.toArray ks) e)->mF s.heap fa ->
   (∀b o,b≠kS->s₀.heap.get? b=some o->s.heap.get? b=some o)->s.os=s₀.os->s.gens=s₀.gens ->
   (∀(s':Shared) f H,jr s'.heap f (done++xs)->s'.heap.get? kS=some (seqObj "list" (List.toArray f) H)->(∀k∈f,k≠Value.ref kS)->(∀b o,b≠kS->s₀.heap.get? b=some o->s'.heap.get? b=some o)->s'.os=s₀.os->s'.gens=s₀.gens->Q ⟨⟩ s') ->
   wpAny cx.M A (forIn vs PUnit.unit body) Q E s:=by
 intro vs
 induction vs with
 |nil=>
  intro xs done ks e s Q c I j w u r G hk h1 B F
  induction xs using List.casesOn with
  |cons _ _=>lia
  |nil=>
   exact ak (F s ks e (by simpa using w) r u hk h1 B)
 |cons v vs ih=>
  intro xs done ks e s Q c I j w u r G hk h1 B F
  induction xs using List.casesOn with
  |nil=>lia
  |cons x xs=>
  obtain⟨⟨t,ev⟩,c⟩:=c;subst ev;rw[List.forIn_cons];refine aj (hb _ s _ (G.call (z _ hk) S (I x (.head _)) λl s' a hl g m K ho hg=>?_));have n:=g _ _ r;have p:a≠kS:=λq=>by rw[q,r]at m;contradiction
  refine⟨ks,e,n,by rw[w.length];simp at j;lia,?_⟩;have i:Heap.SameBut kS s'.heap (s'.heap.update kS (Obj.mapSeq (·.push (Value.ref a)))):=Heap.SameBut.update ..;have ea:(List.toArray ks).push (.ref a)=List.toArray (ks++[.ref a]):=by simp
  obtain⟨D,C⟩:∃D,(s'.heap.update kS _).get? kS=some (seqObj "list" _ D):=⟨_,(ea).symm▸get?_update_seq n (·.push _)⟩;refine ih xs (done++[x]) _ D {s' with heap:=s'.heap.update kS _} c (λy X=>I y (.tail _ X)) (by simp at j ⊢;lia) ?_ ?_ C ?_ ?_ (ho.trans h1) (hg.trans B) ?_
  exact jr.snoc (i.extBut _ _ p K) hl (w.keep kS (λb o hb e=>i.extBut b o hb (g b o e)) u)
  intro k d;rcases aD d with d|d
  exact u k d
  rw[au d];intro q;cases q;exact p rfl
  exact G.keep (λb o hb e=>i.extBut b o hb (g b o e)) ⟨_,r,rfl⟩
  exact λb o hb e=>i.extBut b o hb (g b o (hk b o hb e))
  intro s2 f H N q2 L Z V P;exact F s2 f H (by simpa using N) q2 L Z V P
theorem MP{xs q:List Str}(hu:A.units<cLine)(hA:A.depth+2<1000)(ho:s.heap.get? a=some (seqObj "list" vs.toArray n))(S:oR vs xs)(hx:∀x∈xs,x.length+2<=lim)(h23:xs.length<=5)(I:qK cJ lu xs=q)(hL:mF s.heap fa) (hnl:∀h:Heap,(∀b o,b≠a->s.heap.get? b=some o->h.get? b=some o)->h.NoLimit)(h:∀(s':Shared) ws k,Heap.ExtBut a s.heap s'.heap->s'.heap.get? a=some (seqObj "list" ws k)->(∀n W h,dR n W h ws.toList (q.map .s))->s'.os=s.os->s'.gens=s.gens->P (.done (.ret .none)) s'):wpAny cx.M A (ksk_tree a (.ref fa) false) P E s:=by
 have c:=S.length;have ha:a<s.heap.objs.size:=aV ho;obtain⟨u,G⟩:∃u,(s.heap.update a (Obj.mapSeq λU=>(#[]:Array Value))).get? a=some (seqObj "list" #[] u):=⟨_,get?_update_seq ho λU=>#[]⟩;refine aj (listItems_at ho rfl ?_);refine aj (listUpdate_at ho rfl ?_ (by rw[cg,sizeLine_eq];lia) (bN _));refine aj (seqEpoch_at G rfl ?_);refine aj (wpAny_newTuple ?_ (by show vs.length<=_;rw[sizeLine_eq];lia));refine aj (wpAny_newList ?_ (bN _));refine ao ?_;show wpAny cx.M A _ P E {s with heap:=fu s.heap a vs};have H:((s.heap.update a (Obj.mapSeq λU=>(#[]:Array Value))).push (seqObj "tuple" vs.toArray 0)).objs.size=s.heap.objs.size+1:=by rw[size_push',Heap.size_update]
 have hkS:(fu s.heap a vs).get? (s.heap.objs.size+1)=some (seqObj "list" #[] 0):=by rw[<- H];exact bR _ rfl
 rw[show(Heap.push _ {cls:=.type "tuple",data:=.seq (vs.toArray).toList.toArray}).objs.size=s.heap.objs.size+1 from by rw[bU,Heap.size_update]];have D:Heap.ExtBut a s.heap (fu s.heap a vs):=λb o hb e=>jU e hb;have N:a≠s.heap.objs.size+1:=by have:a<s.heap.objs.size:=ha;exact aY (Nat.lt_succ_of_lt this)
 have g:∀b o,s.heap.get? b=some o->b≠s.heap.objs.size+1:=λb o e=>aY (Nat.lt_succ_of_lt (aV e));refine aj (wpAny_rule ?_);rw[<- Array.forIn_toList];refine aj (IK (kS:=s.heap.objs.size+1) (fa:=fa) (s₀:={s with heap:=fu s.heap a vs}) hA (λx s1 R hc=>?_) (λh' hk'=>hnl h' λb o hb e=>hk' b o (g b o e) (D b o hb e)) vs xs [] [] 0 {s with heap:=fu s.heap a vs} S hx (by simp;lia) trivial (λU h=>by cases h) hkS (hL.keep (λb o hb e=>D b o hb e) ⟨_,ho,rfl⟩) (λU U U e=>e) rfl rfl λs2 ks e L V hn hk Z hgs=>?_)
 refine aj (wpAny_attempt (bG hc (λk s2 hk=>?_) λe s2 he=>?_))
 obtain⟨ks,e,V,hz,hR⟩:=hk;refine aj (listUpdate_at V rfl ?_ (by rw[cg,sizeLine_eq];lia) (aK (Nat.le_of_eq (Array.size_push ..)) (by rw[cg,sizeLine_eq];lia)));exact ak hR
 exact he.elim
 rw[List.nil_append]at L;have r:=L.length;refine aj (listItems_at V rfl ?_);have ho4:=hk a _ N (aq _ (aq _ G));unfold ksk_end;have tail:∀(st:SortSt) (out:List Value),(arrOf st).map (·.2)=out.toArray->failedOf st=none->out.length=vs.length->(∀n W h,dR n W h out (q.map .s))->wpAny cx.M A (ksk_tail a false u (.ref (s.heap.objs.size+1)) st) P E s2:=λst out h1 B h3 h4=>by
  unfold ksk_tail;simp only[h1,Bool.false_eq_true,if_false];refine aj (listUpdate_at V rfl ?_ (by rw[cg,sizeLine_eq];lia) (bN _));refine aj (wpAny_letGo ?_);have K:Heap.SameBut (s.heap.objs.size+1) s2.heap (s2.heap.update (s.heap.objs.size+1) (Obj.mapSeq λU=>(#[]:Array Value))):=Heap.SameBut.update ..;have F:=K.extBut _ _ N ho4;refine aj (seqEpoch_at F rfl ?_);refine aj (listUpdate_at F rfl ?_ (bN _) (by rw[cg,sizeLine_eq];lia));rw[B];simp only[bne_self_eq_false,Bool.false_eq_true,if_false];obtain⟨k,e⟩:∃k,((s2.heap.update (s.heap.objs.size+1) (Obj.mapSeq λU=>(#[]:Array Value))).update a (Obj.mapSeq λU=>out.toArray)).get? a=some (seqObj "list" out.toArray k):=⟨_,get?_update_seq F λU=>out.toArray⟩;refine ak (h _ out.toArray k (λb o hb e=>?_) e (λn W h=>by simpa using h4 n W h) Z hgs);exact(Heap.get?_update_other _ _ (Ne.symm hb)).trans (K.extBut b o (g b o e) ((λb o e hb=>hk b o (g b o e) (D b o hb e)) b o e hb))
 by_cases B:xs.length<2
 have f:vs.toArray.size<2:=by rw[cg,c];exact B
 rw[if_pos f,if_pos f];refine aj (ak ?_);refine aj (ak ?_);refine tail _ vs ?_ rfl rfl λn W h=>?_
 apply Array.toList_inj.mp;simp[List.map_snd_zip (show vs.length<=ks.length by rw[c];exact Nat.le_of_eq r.symm)]
 rw[<- I,show qK cJ lu xs=xs from if_pos B];exact S.rep
 have y:2<=xs.length/\xs.length<=5:=⟨Nat.le_of_not_lt B,h23⟩;have f:¬ vs.toArray.size<2:=by rw[cg,c];exact B
 rw[if_neg f,if_neg f];have t:ks.length=xs.length:=r;have r:=t.trans c.symm;refine aj (kas_kind (T:=.type "list") (by rw[t];exact y.1) (λv hv'=>?_) () () ?_)
 obtain⟨i,hi,rfl⟩:=List.mem_iff_getElem.mp hv';obtain⟨b,l,u,X,_⟩:=L.get i hi;rw[bw,bk hi]at u;rw[show ks[i]=.ref b from u];exact(Looks.ld X).andThen .now
 have ask:(kas_sort vs.length).kasWp (kas_ask cx.prog cx.w A oneType' ks) (λp s'=>p.toList=qJ cJ lu xs/\s'=s2) s2:=by
  rw[c];refine Aj (n:=xs.length) (λi j C hi hj hq=>?_) _ (lG y) ⟨rfl,rfl⟩;obtain⟨b,l,u,X,e3⟩:=L.get i (t▸hi);obtain⟨b',l',f1,f2,f3⟩:=L.get j (t▸hj);show wpAny _ _ (keyLt' oneType' (ks.getD i .none) (ks.getD j .none)) _ _ _;rw[u,f1];refine Sx hu X f2 ?_;rw[e3,f3];exact hq
 refine aj (bG (kat_run (ks:=ks) (vs:=vs) (Q:=λm s'=>∃p:Array Nat,p.size=vs.length/\arrOf m=p.map (kas_item ((List.toArray ks).zip (List.toArray vs)))/\failedOf m=none/\(p.toList=qJ cJ lu xs/\s'=s2))
  r (by rw[c];exact y.1) (by rw[c];lia) (λp' m s' a1 a2 a3 a4=>⟨p',a1,a2,a3,a4⟩) ask) ?_ λU U x=>x)
 rintro ⟨⟨⟩,m⟩ s' ⟨p,hp,har,hf,hpp,rfl⟩
 dsimp only;refine tail m _ ((kat_snds r har).trans (by rw[hpp])) hf (by rw[aB,<- hpp];exact hp) λn W h=>?_;have z:=(nM (d:=cJ) (lt:=lu) y).2;rw[<- I,show qK cJ lu xs=(qJ cJ lu xs).map λi=>xs.getD i cJ from if_neg B,<- LC z];exact zN S.rep λi hi=>by rw[aB];exact z i hi
end
theorem Eu{a b:Int}:∀(l:List Value),TriplesOk l->codeAmong pos (l++[rawInt a,rawInt b,c])=some cv->codeAmong pos l=some cv\/cv=c:=λl h e=>by
 fun_induction TriplesOk l with
 |case1=>
  simp only[List.nil_append,rawInt,codeAmong]at e
  split at e
  ·lia
  ·lia
 |case2 d t f u x rest ih=>
  simp only[List.cons_append,codeAmong]at e ⊢
  split at e
  ·rename_i hc;cases e;rw[if_pos hc];exact .inl rfl
  ·rename_i hc;rw[if_neg hc];exact ih h e
 |case3 l h1 g=>lia
section
variable {s:Shared} {c P:Addr} {ps:Array Value} {firstLine:Nat} {body:Expr} {Q:Value->Shared->Prop}
theorem Mt(u:closureFor scope T=pure [])(i:T.globals=mainGlobals)(F:s.heap.Ns mainGlobals mg)(a:T.code=.ref c)(C:CodeHd s.heap c P)(y:s.heap.get? P=some (tabObj ps))(H:TriplesOk ps.toList)(q:codeAmong pos ps.toList=none) (v:mainGlobals≠P) (hb:s.heap.BuiltinsAt mg P)(h:∀e h' tk,Heap.ExtBut P s.heap h'->BL h' (.ref e) qual->h'.get? P=some (tabObj (ps++#[rawInt pos.line,rawInt pos.col,.ref e])) ->
   Q (.ref h'.objs.size) {s with heap:=h'.push {cls:=.type "function",data:=.func (kla_fn "<lambda>" qual params body scope [] ((mg "__name__").getD .none) (.ref e) .none)},toks:=tk}) :
  wpAny cx.M A (makeFunction "<lambda>" qual params (.expr body) scope T [] [] [] pos firstLine) Q E s:=by
 obtain⟨bm,ob,n,f,_,g,r,k,b,d⟩:=hb;rw[makeFunction_eq];simp;unfold makeTail;rw[u,i];refine aj (ak (aj (ak (aj (wpAny_functionCodeX a (C.code y H) (C.tab y) q λe h' tk w D G U m p l=>?_)))));have j:=F.extBut w v;refine aj (wpAny_builtinsFor j n f (w _ _ g r) k b d (aj (wpAny_nsGet j (aj (ak (wpAny_newObj_type (h e h' tk w ?_ p.2) ()))))));obtain⟨L,_,_,⟨o,vs,x,z,K,_⟩,_⟩:=l;obtain⟨I,o2,t,t2,B,f1,f2,f3⟩:=m;cases B;exact⟨e,o2,t,t2,rfl,f1,by rw[f1]at x;cases x;exact z,f2,f3⟩
end
section
variable {pe:Pe} {s:Shared}
def Aw(h:H.f i=o):H.put i o=H:=by
 refine congrArg (λg=>Hp.mk g H.n) (funext λj=>?_);by_cases e:j=i
 ·rw[if_pos e,e];exact h.symm
 ·rw[if_neg e]
theorem KC(Pk:eY pe cx){body:Expr}{c P:Addr}(N:iZ cx T O)(L:Qg params body scope)(r:cx.lam O=some (c,P,q))(h0:0<H.n)(hf:H.f 0=.t P q)(I:Inv cx W H s)(V:∀fa s',dJ cx fV W H s W H s'->mF s'.heap fa->Q (.ref fa) s'):wpAny cx.M A (eval (.Lambda params body scope a) T) Q E s:=by
 obtain⟨ann,np,ap,cp,k1,p1,k2,p2,R,e1,e2,e3,hap⟩:=id L.ex;obtain⟨d,hq⟩:=N.lam c P q r;obtain⟨C,mg,z,hB,G⟩:=Pk.Ws r;have X:=I.objs 0 h0;rw[hf]at X;obtain⟨hρ,ps,F,j,p⟩:=X;have l:=z.keeps I.keep;have K:=C.keeps I.keep;have x:s.heap.BuiltinsAt mg P:=by obtain⟨bm,o,a1,a2,a3,a4,a5,a6⟩:=hB;exact⟨bm,o,a1,a2,a3,a4,I.keep _ _ a5,a6⟩
 have u:closureFor scope T=pure []:=by subst e3;rfl
 have y:defaultsOf params T=([],[]):=by subst e1;rfl
 refine kla_eval y ?_;rw[hq];cases hc:codeAmong a ps.toList with
 |some cv=>
  refine kla_makeFunctionHit u N.globals l d K F j hc x λB h' tk i U=>?_;have k:=p a cv hc;refine V _ _ (dJ.grown _ I (λb o e=>aq _ (i b o e)) rfl rfl) ⟨params,body,scope,q,_,cv,B,L,bR _ rfl,?_⟩;obtain⟨w,o2,g,t2,v,f1,f2⟩:=k;exact⟨w,o2,g,t2,v,aq _ (i _ _ f1),f2⟩
 |none=>
  refine Mt u N.globals l d K F j hc G x λc' h' tk Z k D=>?_;have up:∀(o:Obj) {cv},BL h' cv q->BL (h'.push o) cv q:=λo cv ⟨w,o2,g,t2,v,f1,f2⟩=>⟨w,o2,g,t2,v,aq _ f1,f2⟩
  have S:∀o:Obj,dJ cx fV W H s W (H.put 0 (.t P q)) {s with heap:=h'.push o,toks:=tk}:=λo=>by
   refine dJ.acA _ I h0 (λb o' hb e=>aq _ (Z b o' () e)) ⟨hρ,_,aq _ D,?_,λm cv' e=>?_⟩ rfl rfl
   simpa using(TriplesOk_snoc a.line a.col _ ps.toList j)
   have e':codeAmong m (ps.toList++[rawInt a.line,rawInt a.col,.ref c'])=some cv':=by simpa using e
   rcases Eu _ j e' with q1|rfl
   obtain⟨w,o2,g,t2,v,f1,f2,f3⟩:=p m cv' q1;refine⟨w,o2,g,t2,v,aq _ (Z _ _ (λq=>?_) f1),f2,f3⟩;rw[q,F]at f1;cases f1;simp at f2
   exact up o k
  rw[Aw hf]at S;exact V _ _ (S _) ⟨params,body,scope,q,_,_,_,L,bR _ rfl,up _ k⟩
end
section
variable {pe:Pe} {n:Nat} {x:V}
def rT:∀{vs:List Value},(∀v∈vs,∃k,(PySem.strKind prog w).is k v=true)->∃xs,oR vs xs:=by
 intro vs
 induction vs with
 |nil=>exact λU=>⟨[],trivial⟩
 |cons v vs ih=>
  intro h;obtain⟨k,hk⟩:=h v (.head _);obtain⟨t,rfl⟩:=jx hk;obtain⟨xs,a⟩:=ih λv b=>h v (.tail _ b);exact⟨k::xs,⟨t,rfl⟩,a⟩
theorem oR.mem:∀{xs},oR vs xs->∀k,k∈xs↔∃v∈vs,(PySem.strKind prog w).is k v=true:=by
 induction vs with
 |nil=>intro xs r k;cases xs with
  |nil=>exact⟨λh=>(nomatch h),λ⟨_,h,_⟩=>(nomatch h)⟩
  |cons x xs=>lia
 |cons v vs ih=>intro xs r k;cases xs with
  |nil=>lia
  |cons x xs=>
   obtain⟨⟨t,e⟩,r⟩:=r;subst e;rw[List.mem_cons,ih r k];constructor
   rintro (rfl|⟨v,a,q⟩)
   exact⟨_,.head _,strKind_is _ _ _ _⟩
   exact⟨v,.tail _ a,q⟩
   rintro ⟨v,a,q⟩
   rcases aA a with rfl|a
   obtain⟨b,e⟩:=jx q;cases e;exact .inl rfl
   exact .inr ⟨v,a,q⟩
theorem vC{α:Type}[DecidableEq α]:∀{ks l:List α},ks.Nodup->l.length=ks.length->(∀k,k∈ks->k∈l)->l.Perm ks:=by
 intro ks
 induction ks with
 |nil=>
  intro l _ hl _;obtain rfl:=List.length_eq_zero_iff.mp hl;exact .refl _
 |cons k ks ih=>
  intro l b hl c;rw[cB]at b;have hk:=c k (.head _);refine(List.perm_cons_erase hk).trans ((ih b.2 ?_ λj d=>?_).cons k)
  rw[List.length_erase_of_mem hk,hl];rfl
  have a:j≠k:=λq=>b.1 (q▸d);rw[List.mem_erase_of_ne a];exact c j (.tail _ d)
theorem Cy(Pk:eY pe cx)(a1:Ar (n+1) A)(hi:i<H.n)(e:H.f i=.e ks)(F:mq ks out)(hlen:ks.all (λk=>decide (k.length+2<=lim))=true)(I:Inv cx W H s)(hL:mF s.heap fa)(hQ:∀v s' ρ',dJ cx fV W H s ρ' (H.alloc (.l (out.map .s))) s'->Rep (H.n+1) ρ' s'.heap v (.r H.n)->Q v s'):wpAny cx.M A (call (.builtin "sorted") [.ref (W i)] [(Str.ofString "key",.ref fa)]) Q E s:=by
 have hS:iH cx.prog cx.w s.heap (W i) ks:=by have:=I.objs i hi;rw[e]at this;exact this
 obtain⟨⟨⟨o,es,ep,t,ho,hex,hd,S,K,hb,hf,hn⟩,o',es',ep',t',L,z,Z,hp,hsm⟩,y⟩:=hS;rw[ho]at L;first|contradiction|cases L
 rw[hd]at z;first|contradiction|cases z
 refine call_function_entry_kw kind_sorted plain_sorted entry_sorted (ksk_s1 _ _) ?_;refine aj (ak ?_);refine aj (zF (a:=W i) (es:=es) (ep:=ep) (t:=t) a1.handled ⟨⟨o,ho,hex.1,hd⟩,hf⟩ Z hp hb λwk s1 d g V hgs=>?_);have G:∀v∈wk,∃k,(PySem.strKind cx.prog cx.w).is k v=true:=λv hv=>by
  obtain⟨p,u,rfl⟩:=aF (d.mem_iff.mp hv);obtain⟨⟨k,hk,_⟩,_⟩:=S p u;exact⟨k,hk⟩
 obtain⟨xs,c⟩:=rT G;have h:wk.length=ks.length:=by rw[d.length_eq];simpa using hn
 have C:xs.Perm ks:=by
  refine vC y (by rw[<- c.length,h]) λk hk=>?_;rw[c.mem (prog:=cx.prog) (w:=cx.w)];obtain⟨p,u,R⟩:=(K k).mp (by simpa using hk);exact⟨p.2,d.mem_iff.mpr (aJ u),R⟩
 have N:=F.few;have hpr:=F.eq xs C;refine aj (wpAny_newList ?_ (by rw[h,sizeLine_eq];lia));refine aj (ao (wpAny_call_entry_kw slot_list_sort ⟨_,bR _ rfl,rfl⟩ entry_list_sort ?_ (ksk_l1 _ _)));rw[ksk_t1];have q:∀b o,s.heap.get? b=some o->(s1.heap.push {cls:=.type "list",data:=.seq wk.toArray}).get? b=some o:=λb o e=>aq _ (g b o e);have fr:=λb o e=>aY (aV (g b o e));have P:s.heap.get? s1.heap.objs.size=none:=by
  cases e:s.heap.get? s1.heap.objs.size with
  |none=>rfl
  |some o=>exact absurd rfl (fr _ _ e)
 have hu:=a1.units;have hdp:=a1.depth;refine MP (xs:=xs) ?_ ?_ (bR _ rfl) c (λx hx=>?_) (by rw[<- c.length,h];exact N) hpr (hL.keeps q) (λh' X=>?_) λs2 ws k2 hx ho2 hr B D=>⟨_,rfl,ak ⟨_,rfl,?_⟩⟩
 show A.units+1+1<cLine;simp only[cLine];lia
 show A.depth+2<1000;lia
 have:=List.all_eq_true.mp hlen x (C.mem_iff.mp hx)
 simpa using this
 exact Pk.noLimit.keeps λb o e=>X b o (fr b o (I.keep b o e)) (q b o (I.keep b o e))
 refine hQ _ _ _ (dJ.new _ I P (I.neX g) (λb o e=>hx b o (fr b o e) (q b o e)) ⟨ws,k2,ho2,?_⟩ (B.trans V) ?_) gq
 exact hr _ _ _
 rw[D];show s1.gens=_;rw[hgs]
def zA{xs:List Str}(q:StrsAre vs xs):dR n W h vs (xs.map .s):=by
 induction q with
 |nil=>exact .nil
 |cons _ _ _ ih=>exact .cons (.str _ _) ih
theorem Ux(S:eY pe cx)(R:ap.endLine=f.line)(K:O.lookup ("list":Str)=some .globalImplicit)(M:O.lookup lE=some .globalImplicit)(hl:pe.RZ=some l)(eH:H.alloc (.l (l.map λp=>.t [.s p.1,.s p.2]))=H'):GE cx (n+1) O J (.Call (.Name "list" fp) [.Call (.Attribute (.Name lE mp) "items" ap) [] [] f] [] pos) H (.r H.n) H':=by
 intro A T W s Q E C x;subst eH;obtain⟨a1,k,I,X⟩:=C;obtain⟨y,a,ps,L,i,hz,hD,B,D⟩:=S.RZ hl;have z:look pe O J "list"=some (.e .list):=by
  unfold look;rw[if_neg (),K];exact y
 refine wpAny_Call_ofName (jJ S z k I X λfv rf=>?_);obtain rfl:=rf.Dv;have g:s.heap.DictOf (PySem.strKind cx.prog cx.w) a ps:=by obtain⟨o,es,ep,ho,r⟩:=hD;exact⟨o,es,ep,I.keep _ _ ho,r⟩
 obtain⟨o,es,ep,ho,m,P,hK,hP,G⟩:=id g;have hT:s.TypeIs (.ref a) "dict":=g.typeIs;have v:∀b,Value.ref a=.ref b->∃o,s.heap.get? b=some o/\o.dict=none:=λb q=>by cases q;exact⟨_,ho,m.2.1⟩
 refine jy (evalArgs_kw2 rfl (Calls.spliced_cons ?_) rfl);rw[arm_eval_Call,s7 rfl];refine aj (wpAny_Name ?_ ());rw[loadName_read k.kind (k.kind' M ())];refine L k.globals k.builtins I.keep ?_;refine aj (aW ?_);unfold methodCall;rw[show methodCallForm _ (backTo f (starEach [] T)) (backToKw f (keywordEach [] T))=true from rfl];refine aj (ao ?_);refine getMethod_builtin hT F.plainAttrs_dict F.slot_dict_items F.type_dict_items v ?_;dsimp only;refine aj ?_;rw[CX R];refine ak (jy (evalArgs_kw2_nil rfl (kwAll_nil ⟨λ{A Q E} x=>ak (x _),?_⟩)));refine call_meetsIn F.slot_dict_items g.typeIs F.entry_dict_items (F.args_dict_items_1 _) (meets_dict_items (PySem.strKind cx.prog cx.w) a i) ⟨⟨ps,g⟩,?_⟩;refine Calls.spliced_nil (kwAll_nil ⟨λ{A Q E} x=>ak (x _),?_⟩);refine kdx_call (d:=a) (kvs:=ps) (ep:=ep) a1.handled ⟨_,bR _ rfl,rfl,rfl⟩ ⟨o,es,aq _ ho,m,P,hK,hP,G⟩ (by rw[sizeLine_eq];lia) λh' tk acc c as hk hS hlen hG u=>?_;have N:=λb o e=>hk b o (aq _ e);have hsz:s.heap.objs.size<(s.heap.push {cls:=.type "dict_items",data:=.fields #[.ref a]}).objs.size:=by rw[bU];lia
 refine x _ _ _ (dJ.new _ I (Heap.get?_none_of_le (cj hsz)) (I.neX λU U e=>aq _ e) N ⟨acc,c,hS,?_⟩ rfl rfl) gq;rw[u];have:=nQ (n:=H.n+1) (h:=h') (prog:=cx.prog) (w:=cx.w) (lo:=0) (ps:=ps) (kvs:=l.map λp=>(p.1,V.s p.2)) (as:=as) (by rw[B,aR];rfl) (by
  have:=zA (n:=H.n+1) (W:=λj=>if j=H.n then(s.heap.push {cls:=.type "dict_items",data:=.fields #[.ref a]}).objs.size else W j) (h:=h') D;rw[aR]at this ⊢;exact this) hlen λj b hj=>hG.pairs j b hj
 rw[aR]at this;exact this
theorem Uw(d:eY pe cx){p fp np p1 lp kp:Pos}{x:Expr}{a P:Addr}(o:p2.endLine=p5.line)(b:isStar x=false)(j:look pe O J f=some (.e .sorted))(h1:GE cx n O J x H (.r i) H1)(g:H1.f i=.e ks) (hl:pe.lam O=some (a,P,q)) (h0:0<H1.n) (hf:H1.f 0=.t P q) (c1:mq ks out) (z:ks.all (λk=>decide (k.length+2<=lim))=true) (e:H1.alloc (.l (out.map .s))=H2):GE cx (n+1) O J (.Call (.Name f fp) [x] [⟨some "key",.Lambda ⟨[],[⟨"n",none,np⟩],none,[],[],none,[]⟩ (.Call (.Attribute (.Name "n" p1) "split" p2) [.Constant (.str brace) k1 p3,.Constant (.int 1) k2 p4] [] p5) ⟨.function,[("n",.local)],false,false,c⟩ lp,kp⟩] p) H (.r H1.n) H2:=by
 intro A T W s Q E C m;subst e;refine wpAny_Call_ofName (jJ d j C.en C.inv C.vars λfv B=>?_);cases B.Dv;refine jy (evalArgs_kw2 rfl ((m7 b h1 wG).2.2 C.low λvs s1 gw u r1=>(aj (aj (KC d C.en ⟨⟨_,_,_,_,_,_,_,_,_,rfl,rfl,rfl,o⟩⟩ (by rw[<- d.lam];exact hl) h0 hf u.inv λfa s2 w L=>aj (aW (ak (aj (ao (ak (ak ?_)))))))))) (jg b))
 cases r1 with|cons y r1=>
 cases r1;obtain⟨hi,rfl⟩:=y.dX;exact⟨λ{A Q E} m=>ak (m _),(Cy d C.ar hi g c1 z w.inv L λv s3 h F D=>m v s3 h ((u.trans w).trans F) D)⟩
end
def Iv:typeLookup (.type "list") "append"=pure (some (.builtin "list.append")):=by rfl
def v7:typeOf (.builtin "list.append")=pure (.type "method_descriptor"):=F.type_list_append
def Ze:typeLookup (.type "method_descriptor") "__get__"=pure (some (.builtin "method_descriptor.__get__")):=by rfl
def Zd:typeLookup (.type "method_descriptor") "__set__"=pure none:=by rfl
def Zf:typeLookup (.type "method_descriptor") "__delete__"=pure none:=by rfl
def rm:Slot "method_descriptor" "__get__" "method_descriptor.__get__":=
 .of (owner:="method_descriptor") (n:="__get__") rfl rfl rfl rfl
  () rfl
section
variable {h:Heap} {g:Array GenState} {d:Drawn} {t:Nat} {os:OsState} {a:Addr} {xs:Array Value}
theorem Et(j:h.get? a=some {cls:=.type "list",data:=.seq xs k})
 (f:R (.ok (.ret (.ref h.objs.size))) ⟨h.push {cls:=.type "builtin_function_or_method",data:=.fields #[.builtin "list.append",.ref a]},g,d,t,os⟩) :
  codeAny (model prog w) A (.call (.builtin "method_descriptor.__get__") ⟨[.builtin "list.append",.ref a,.type "list"],[]⟩) R ⟨h,g,d,t,os⟩:=by
 have e:=v7
 refine codeAny_call_builtin rm.plain (entryFor_of_tree rfl) (rm.check _ _ _ _ _ _ _ _ e ((by rfl)) ?_);have c:(".".intercalate ("list.append".cutAt '.').dropLast)="list":=by decide+kernel
 have b:isSubtype (.type "list") (.type (".".intercalate ("list.append".cutAt '.').dropLast))=pure true:=by rw[c];exact AutoSeq1.sub_list_list
 refine aj (ak ?_);refine aj ?_;refine aj (m:=isInstance (.ref a) _) (wpAny_isInstance ⟨_,j,rfl⟩ b ?_);refine ak ?_;exact aj (wpAny_newObj_type (ak f) (by size_fits))
theorem yQ(b:h.get? a=some {cls:=.type "list",data:=.seq xs k})
 (c:Q (.done (.ret (.ref h.objs.size))) ⟨h.push {cls:=.type "builtin_function_or_method",data:=.fields #[.builtin "list.append",.ref a]},g,d,t,os⟩) :
  wpAny (model prog w) A (Builtin.«object.__getattribute__» ⟨[.ref a,.str "append" tk],[]⟩) Q E ⟨h,g,d,t,os⟩:=by
 have n:(⟨h,g,d,t,os⟩:Shared).TypeIs (.ref a) "list":=⟨_,b,rfl⟩;have e:=v7;have l:=Iv;have f:=Ze;have m:=Zd;have i:=Zf
 repeat (any_goals (first|assumption|wp_step))
 exact Et b (ak c)
theorem Bv(b:h.get? a=some {cls:=.type "list",data:=.seq xs k})
 (c:R (.ok (.ret (.ref h.objs.size))) ⟨h.push {cls:=.type "builtin_function_or_method",data:=.fields #[.builtin "list.append",.ref a]},g,d,t,os⟩) :
  codeAny (model prog w) A (.call (.builtin "list.__getattribute__") ⟨[.ref a,.str "append" tk],[]⟩) R ⟨h,g,d,t,os⟩:=
 codeAny_call_builtin F.slot_list_getattribute.plain F.entry_list_ga (F.slot_list_getattribute.check _ _ _ _ _ _ _ _ (⟨_,b,rfl⟩) (F.args_list_getattribute_2 _ _) (yQ b c))
theorem Jl(b:h.get? a=some {cls:=.type "list",data:=.seq xs k})
 (c:Q (.ref h.objs.size) ⟨h.push {cls:=.type "builtin_function_or_method",data:=.fields #[.builtin "list.append",.ref a]},g,d,t,os⟩) :
  wpAny (model prog w) A (getAttrBy (.ref a) (.str "append" tk) true true) Q E ⟨h,g,d,t,os⟩:=by
 have f2:=F.slot_list_getattribute.lookup;have f3:=F.slot_list_getattribute.bind (.ref a)
 repeat (any_goals (first|assumption|wp_step))
 refine Bv b ?_
 repeat (any_goals (first|assumption|wp_step))
def uM(b:s.heap.get? a=some {cls:=.type "list",data:=.seq xs k})
 (c:Q (.ref s.heap.objs.size) {s with heap:=s.heap.push {cls:=.type "builtin_function_or_method",data:=.fields #[.builtin "list.append",.ref a]},toks:=s.toks+1}) :
  wpAny (model prog w) A (getAttr (.ref a) "append" true) Q E s:=by
 obtain⟨h,g,d,t,os⟩:=s;exact aj (wpAny_mkText (Jl b c))
end
section
variable {pe:Pe} {n:Nat} {x:V}
theorem wz(P:eY pe cx){u:Value}(h:fld pe H name v=some x)(I:Inv cx W H s)(c:Rep H.n W s.heap u v)(j:∀a s',dJ cx fV W H s W H s'->Rep H.n W s'.heap a x->Q a s'):wpAny cx.M A (getAttr u name true) Q E s:=by
 cases v with
 |r i=>
  refine jm c.dX λhi=>?_;have h:Um pe H name i (H.f i)=some x:=h;generalize e:H.f i=o at h;cases o with
  |i C d=>
   have h:Ay pe name i C (H.f d)=some x:=h;generalize b:H.f d=o at h;cases o with
   |n kvs=>
    obtain⟨m,hc,g⟩:=Option.bind_eq_some_iff.mp h;exact wu P hi e b hc g I j
   |_=>lia
  |_=>lia
 |_=>first|exact gB h|exact iC h|cases h
theorem wR{o:Expr}{u:V}(b:jX o=false)(h1:GE cx n O J o H u H1)(C:Cn cx (n+1) O J H A T W s)(h:∀a s1 gw,dJ cx fV W H s gw H1 s1->Rep H1.n gw s1.heap a u->wpAny cx.M A (getAttr a name true) Q E s1):wpAny cx.M A (eval (.Attribute o name pos) T) Q E s:=by
 rw[arm_eval_Attribute,s7 b];exact aj (h1 C.low λa s1 gw c r1=>aj (aW (aj (ao (bG (h a s1 gw c r1) (λw s2 q=>aj (wpAny_letTemporaryGo (ak q))) λU U e=>e)))))
def OJ(P:eY pe cx){o:Expr}{u:V}(e:jX o=false)(h1:GE cx n O J o H u H1)(b:fld pe H1 name u=some x):GE cx (n+1) O J (.Attribute o name pos) H x H1:=λU U U U U U C f=>
 wR e h1 C λU U U a r1=>wz P b a.inv r1 λw s2 c d=>f _ _ _ (a.trans c) d
def UJ{o:Expr}(d:jX o=false)(h1:GE cx n O J o H (.r i) H1)(b:H1.f i=.l xs):GE cx (n+1) O J (.Attribute o "append" pos) H (.k .jh (.r i)) H1:=λU U U U U U C c=>
 wR d h1 C λU U U a r1=>by
  refine jm r1.dX λhi=>?_;obtain⟨vs,k,ho,q⟩:=a.inv.list hi b;exact uM ho (c _ _ _ (a.trans (dJ.grown _ a.inv (λU U e=>aq _ e) rfl rfl)) (.bm rfl (bR _ rfl) (.ref i hi)))
end
section
variable {pe:Pe} {n:Nat} {x:V}
theorem dJ.adopt(S:dJ cx fV W H s je H2 s2)(k:s.heap.get? a=none)(p:a≠sysModules)(d:∀i,i<H2.n->je i≠a)(r:cx.g.get? a=none)(l:∀ob,s2.heap.get? a=some ob->ob.cls=.type "list"\/ob.cls=.type "dict")(y:Heap.ExtBut a s2.heap s3.heap)(ho:gH cx.prog cx.w (H2.n+1) (λj=>if j=H2.n then a else je j) s3.heap a o) (m:s3.os=s2.os) (hb:s3.gens=s2.gens):dJ cx fV W H s (λj=>if j=H2.n then a else je j) (H2.alloc o) s3:=by
 have rY:∀i,i<H2.n->(λj=>if j=H2.n then a else je j) i=je i:=λi hi=>if_neg ()
 have ns:∀i,i<H2.n+1->(if i=H2.n then a else je i)≠sysModules:=λi hi=>by
  by_cases h:i=H2.n
  lia
  rw[if_neg h];exact S.inv.Dd i ()
 have I9:=λb ob e hb=>y b ob hb e
 have K:Kp H2.n je s2.heap _ _ s3.heap->dJ cx fV W H s _ (H2.alloc o) s3:=λK=>by
  refine⟨⟨λb o e=>I9 b o (S.inv.keep b o e) (),m.trans S.inv.os,hb▸S.inv.bare,λi hi=>?_,λi j hi t q=>?_,λi hi=>?_,S.inv.st,ns⟩,aK S.le (cF _),λi hi=>(rY i (aM hi S.le)).trans (S.rY i hi),λi h1 u=>?_,λb ob e z v=>I9 b ob (S.ext b ob e z v) (),λg x e=>hb▸S.gx g x e⟩
  show gH _ _ (H2.n+1) _ _ _ (if i=H2.n then o else H2.f i);by_cases h:i=H2.n
  lia
  rw[if_neg h,if_neg h];have c:=bM (cD hi) h;obtain⟨ob,e,_⟩:=(S.inv.objs i c).some;exact(S.inv.objs i c).mono K ((I9 _ _ e (d i c)).trans e.symm)
  by_cases h:i=H2.n <;> by_cases h':j=H2.n
  rw[h,h']
  rw[if_pos h,if_neg h']at q;exact absurd q.symm (d j (bM (cD t) h'))
  rw[if_neg h,if_pos h']at q;exact absurd q (d i (bM (cD hi) h))
  rw[if_neg h,if_neg h']at q;exact S.inv.inj i j (bM (cD hi) h) (bM (cD t) h') q
  by_cases h:i=H2.n
  lia
  rw[if_neg h];exact S.inv.low i (bM (cD hi) h)
  by_cases h:i=H2.n
  lia
  rw[if_neg h];exact S.fresh i h1 (bM (cD u) h)
 refine K ⟨cF _,rY,λb ob e hc=>I9 b ob e λq=>?_⟩;subst q;rcases l ob e with h|h <;> have hc:=hc.1 <;> rw[h]at hc <;> exact absurd hc (by decide+kernel)
def aau(h1:GL cx n O J es H xs H1)(hl:xs.length<=lim)(e:H1.alloc (.l xs)=H2):GE cx (n+1) O J (.List es pos) H (.r H1.n) H2:=λU U U U U U C d=>by
 subst e;exact aj (aW (aj (h1.2.2 C.low λvs s1 gw a r1=>HN a.inv r1 hl λv s2 je c b=>d v s2 je (a.trans c) b)))
def Uv{b:Nat}(h1:GL cx n O J es H xs H1)(hl:xs.length<=lim):GE cx (n+1) O J (.Tuple es b pos) H (.t xs) H1:=λU U U U U U C e=>by
 exact aj (aW (aj (h1.2.2 C.low λvs s1 gw a r1=>CG a.inv r1 hl λv s2 d c=>e v s2 gw (a.trans d) c)))
def Uz(e:H.alloc (.d [])=H1):GE cx (n+1) O J (.Dict [] [] pos) H (.r H.n) H1:=λA T W s Q E C b=>by
 subst e;refine wpAny_Dict_empty (b _ _ _ (dJ.new _ C.inv (fC _) C.inv.Ij (λU U e=>aq _ e) ?_ rfl rfl) gq);exact⟨[],⟨_,#[],0,bR _ rfl,⟨rfl,rfl,rfl⟩,rfl,λe a=>(by simp at a),.nil,.nil⟩,rfl,.nil⟩
theorem Mf(P:eY pe cx){s:Shared}(h:look pe O J y=some v)(N:iZ cx T O)(X:fK cx T H.n W s.heap J):∃u,Rep H.n W s.heap u v:=by
 unfold look at h
 split at h
 lia
 generalize hk:O.lookup y=k at h;cases k with
 |none=>lia
 |some k=>
  cases k with
  |«local»=>
   obtain⟨m,b,a⟩:=X.ns;obtain⟨u,_,r⟩:=a y v h (N.kind' hk ());exact⟨u,r⟩
  |cell=>
   obtain⟨c,u,_,_,r⟩:=X.cell y v h (.inl (N.kind' hk ()));exact⟨u,r⟩
  |free=>
   obtain⟨c,u,_,_,r⟩:=X.cell y v h ((N.names y _ hk).elim .inr λq=>.inl q.2);exact⟨u,r⟩
  |globalImplicit=>
   obtain⟨u,r,_⟩:=P.glob h;exact⟨u,r _ _ _⟩
  |_=>lia
theorem afh(P:eY pe cx){a b:Str}{m sp:Pos}(x:look pe O J a=some (.s k0))(hb:look pe O J b=some (.r d))(hd:H.f d=.d kvs)(hl:kvs.length<=3)(e:H.alloc (.e (fH [k0] (kvs.map (·.1))))=H1):GE cx (n+1) O J (.Set [.Name a ap,.Starred (.Name b m) sp] 0 pos) H (.r H.n) H1:=λA T W s Q E C z=>by
 subst e;obtain⟨y,i,I,X⟩:=C;have c:∀(s':Shared),(∀b o,s.heap.get? b=some o->s'.heap.get? b=some o)->s'.os=s.os->s'.gens=s.gens->dJ cx fV W H s W H s':=λs' hk h1 h=>dJ.grown _ I hk h1 h;obtain⟨u,w⟩:=Mf P hb i X;obtain⟨hi,rfl⟩:=w.dX;obtain⟨ps,hD,p,q⟩:=I.dict hi hd;have hz:ps.length=kvs.length:=by have:=congrArg List.length p;simpa using this
 obtain⟨D,g⟩:=i.code;refine aj (aW (aj (Yj (h₀:=s.heap) (g.keeps I.keep) λB=>?_)));refine HS (k0:=k0) y.handled (λ{s' Q'} hk h1 h hq=>?_) (λ{s' Q'} hk h1 h hq=>?_) hD (I.kj P.sys hi) () λh' tk hk l=>?_
 have S:=c s' hk h1 h;refine aj (jJ P x i S.inv (X.step I S) λfv k=>aj (aW (ak ?_)));obtain⟨t,rfl⟩:=k.dY;exact hq t
 have S:=c s' hk h1 h;refine aj (jJ P hb i S.inv (X.step I S) λfv k=>aj (aW (ak ?_)));obtain⟨_,rfl⟩:=k.dX;exact hq
 refine z _ _ _ (dJ.new _ I (fC _) I.Ij hk ?_ rfl rfl) gq;rw[p]at l;exact l
end
section
variable {pe:Pe} {n:Nat} {x:V}
theorem JL(A:Around)(args:Args):(A.under (.builtin "type.__call__" args)).handled=A.handled/\(A.under (.builtin "type.__call__" args)).depth<=A.depth+2/\(A.under (.builtin "type.__call__" args)).units<=A.units+10:=by
 refine⟨rfl,?_,?_⟩
 show A.depth+_<=_;have:(Code.builtin "type.__call__" args).weight<=2:=by
  unfold Code.weight;have h1:(Code.builtin "type.__call__" args).frames=0:=by rfl
  have a:(Code.builtin "type.__call__" args).isGuard=false:=by rfl
  have b:(Code.builtin "type.__call__" args).isCaller=false:=by rfl
  rw[h1,a,b]
  split <;> simp
 lia
 show A.units+_<=_;have:(Code.builtin "type.__call__" args).cUnits=1:=by rfl
 lia
def ArF.tc(a:Ar (n+1) A)(args:Args):ArF n (A.under (.builtin "type.__call__" args)):=by
 obtain⟨h1,b,c⟩:=JL A args;exact⟨h1.trans a.handled,by have:=a.depth;lia,by have:=a.units;lia⟩
theorem Dj(P:eY pe cx){g:Addr}{kws:List (Str×V)}(l:pe.init C=some g)(h:yU cx n g (.r (H.n+1)::args) kws ((H.alloc (.n [])).alloc (.i C H.n)) .n H'){A s W vs kvs}   (a1:Ar (n+1) A) (I:Inv cx W H s) (u:dR H.n W s.heap vs args) (f:Ey H.n W s.heap kvs kws)(y:∀v s' ρ',dJ cx fV W H s ρ' H' s'->Rep H'.n ρ' s'.heap v (.r (H.n+1))->Q v s'):wpAny cx.M A (call (.ref C) vs kvs) Q E s:=by
 obtain⟨x,hf,w⟩:=P.init l;have X:=MN P I;refine wpAny_call ?_;obtain⟨h0,a,d,t,os⟩:=s;refine make_core (makes_of X x) (looks_findIn X hf) (λself=>bind_fn X self w) (.inl rfl) ?_;have c:dJ cx fV W H ⟨h0,a,d,t,os⟩ _ (H.alloc (.n [])) ⟨h0.push emptyDict,a,d,t,os⟩:=
  dJ.new _ I (fC _) I.Ij (λU U e=>aq _ e) ⟨#[],_,bR _ rfl,by intro e p;simp at p,bT _,λU U q=>by simp at q,λU U=>rfl⟩ rfl rfl
 have b:=dJ.new fV c.inv (o:=.i C H.n) (s':=⟨(h0.push emptyDict).push _,a,d,t,os⟩)
  (by have:=fC (h0.push emptyDict);rwa [bU]at this) (by have:=c.inv.Ij;rwa [show(⟨h0.push emptyDict,a,d,t,os⟩:Shared).heap.objs.size=h0.objs.size+1 from bU ..]at this) (λU U e=>aq _ e)
  (by
   refine⟨Nat.lt_succ_of_lt (aN _),?_⟩;have h1:(if H.n=(H.alloc (.n [])).n then h0.objs.size+1 else if H.n=H.n then h0.objs.size else W H.n)=h0.objs.size:=by
    rw[if_neg (show ¬ H.n=(H.alloc _).n from aY (aN H.n)),if_pos rfl]
   show Heap.get? _ _=some {cls:=Value.ref C,dict:=some (if H.n=(H.alloc _).n then h0.objs.size+1 else if H.n=H.n then h0.objs.size else W H.n),data:=.plain};rw[h1];have:=bR (h0.push emptyDict) (o:=instObj C h0.objs.size) rfl
   rwa [bU]at this) rfl rfl
 have S:=c.trans b;have k:Rep (H.n+1+1) (λj=>if j=(H.alloc (.n [])).n then h0.objs.size+1 else(λj=>if j=H.n then h0.objs.size else W j) j) ((h0.push emptyDict).push (instObj C h0.objs.size)) (.ref (h0.objs.size+1)) (.r (H.n+1)):=by
  have:=Rep.ref (W:=λj=>if j=(H.alloc (.n [])).n then h0.objs.size+1 else(λj=>if j=H.n then h0.objs.size else W j) j) (h:=(h0.push emptyDict).push (instObj C h0.objs.size)) (H.n+1) (aN _)
  rwa [show(if H.n+1=(H.alloc _).n then h0.objs.size+1 else(λj=>if j=H.n then h0.objs.size else W j) _)=h0.objs.size+1 from if_pos rfl]at this
 exact h (ArF.tc a1 _) b.inv (.cons k (S.zO I u)) ⟨f.names,S.zO I f.vals⟩ λv s' ρ' S' m=>⟨m.uJ,y _ _ _ (S.trans S') (S'.rep b.inv k)⟩
def dR.inv1(r:dR n W h vs [x]):∃v,vs=[v]/\Rep n W h v x:=by
 cases r with|cons a b=>cases b;exact⟨_,rfl,a⟩
def dR.inv2{n W h vs x y}(r:dR n W h vs [x,y]):Ex2 λv w=>vs=[v,w]/\Rep n W h v x/\Rep n W h w y:=by
 cases r with|cons a b=>obtain⟨w,rfl,c⟩:=b.inv1;exact⟨_,_,rfl,a,c⟩
def dR.Nf(r:dR n W h vs []):vs=[]:=by cases r;rfl
end
structure mQ (H:Hp) (p:Pm) (y:V) (args:List V) (x:V) (H':Hp):Prop where
 dir:∀{cx:Cx} {A:Around} {s:Shared} {W:Nat->Addr} {w:Value} {vs:List Value} {Q:Value->Shared->Prop} {E:Value->Shared->Prop},iQ cx->Inv cx W H s->Rep H.n W s.heap w y->dR H.n W s.heap vs args->(∀v s' ρ',dJ cx fV W H s ρ' H' s'->Rep H'.n ρ' s'.heap v x->Q v s')->wpAny cx.M A (call (.builtin p.id) (w::vs)) Q E s
 bnd:p.obj=true->∀{cx:Cx} {A:Around} {s:Shared} {W:Nat->Addr} {a:Addr} {w:Value} {vs:List Value} {Q:Value->Shared->Prop} {E:Value->Shared->Prop},Inv cx W H s->s.heap.get? a=some {cls:=.type "builtin_function_or_method",data:=.fields #[.builtin p.id,w]}->Rep H.n W s.heap w y->dR H.n W s.heap vs args->(∀v s' ρ',dJ cx fV W H s ρ' H' s'->Rep H'.n ρ' s'.heap v x->Q v s')->wpAny cx.M A (call (.ref a) vs) Q E s
theorem mQ.wA(hf:H.f i=.l xs)(hl:xs.length<lim)(e:H.put i (.l (xs++[v]))=H1):mQ H .jh (.r i) [v] .n H1 where
 dir:=λh I b c g=>by
  subst e;refine jm b.dX λhi=>?_;obtain⟨v,rfl,d⟩:=c.inv1;exact K7 hi hf hl I d λs' S=>g _ _ _ S .none
 bnd:=λ_ {cx A s W a w vs Q E} I ho b c g=>by
  subst e;obtain⟨hi,rfl⟩:=b.dX;obtain⟨v,rfl,d⟩:=c.inv1;exact yN ho hi hf hl I d λs' S=>g _ _ _ S .none
theorem mQ.Yt(hf:H.f i=.l xs)(c:xs.getLast?=some v)(hl:xs.length<=lim)(e:H.put i (.l xs.dropLast)=H1):mQ H .adW (.r i) [] v H1 where
 dir:=λj I a b g=>by
  subst e;refine jm a.dX λhi=>?_;cases b.Nf;exact acU hi hf c hl I λv s' S d=>g _ _ _ S d
 bnd:=iC
theorem mQ.Rw(hf:H.f i=.l xs)(b:jq xs ys)(e:H.put i (.l ys)=H1):mQ H .Wt (.r i) [] .n H1 where
 dir:=λg I a c d=>by
  subst e;refine jm a.dX λhi=>?_;cases c.Nf;exact YG hi hf b I λs' S=>d _ _ _ S .none
 bnd:=iC
theorem mQ.zQ(hf:H.f i=.d kvs):mQ H .Pa (.r i) [] (.w i) H where
 dir:=λe I a c b=>by
  refine jm a.dX λhi=>?_;cases c.Nf;exact RV e hi hf I λv s' S r=>b _ _ _ S r
 bnd:=iC
theorem mQ.Yu{k:Str}(hf:H.f i=.d kvs):mQ H .aaF (.r i) [.s k] ((kvs.lookup k).getD .n) H where
 dir:=λb I a c g=>by
  refine jm a.dX λhi=>?_;obtain⟨v,rfl,e⟩:=c.inv1;obtain⟨t,rfl⟩:=e.dY;exact acV b hi hf I λv s' S r=>g _ _ _ S r
 bnd:=iC
theorem mQ.RB{k:Str}{d:V}(hf:H.f i=.d kvs):mQ H .aaF (.r i) [.s k,d] ((kvs.lookup k).getD d) H where
 dir:=λc I b e j=>by
  refine jm b.dX λhi=>?_;obtain⟨v,w2,rfl,g,a⟩:=e.inv2;obtain⟨t,rfl⟩:=g.dY;exact YK c hi hf I a λv s' S r=>j _ _ _ S r
 bnd:=iC
theorem mQ.Rx{k:Str}(hf:H.f i=.e ks)(hl:ks.length<1000)(e:H.put i (.e (iG ks k))=H1):mQ H .Yl (.r i) [.s k] .n H1 where
 dir:=λg I a b d=>by
  subst e;refine jm a.dX λhi=>?_;obtain⟨v,rfl,c⟩:=b.inv1;obtain⟨t,rfl⟩:=c.dY;exact YH hi hf hl I λs' S=>d _ _ _ S .none
 bnd:=iC
theorem mQ.Ry(hf:H.f i=.l xs)(hl:strsOf xs=some l)(c:JoinOk x l=true):mQ H .tG (.s x) [.r i] (.s (Txt.join x l)) H where
 dir:=λh I b d g=>by
  obtain⟨t,rfl⟩:=b.dY;obtain⟨v,rfl,e⟩:=d.inv1;exact jm e.dX λhi=>YJ hi hf hl c I λv s' S r=>g _ _ _ S r
 bnd:=λ_ {cx A s W a w vs Q E} I ho b d g=>by
  obtain⟨t,rfl⟩:=b.dY;obtain⟨v,rfl,e⟩:=d.inv1;exact jm e.dX λhi=>Eo ho hi hf hl c I λv s' S r=>g _ _ _ S r
theorem mQ.H8{k:Int}(hc:y.length≠0/\x.length+2<=lim/\0<=k/\k<1000)(e:H.alloc (.l ((Txt.rsplitMax x y k).map .s))=H1):mQ H .Fx (.s x) [.s y,.i k] (.r H.n) H1 where
 dir:=λg I b c f=>by
  subst e;obtain⟨t,rfl⟩:=b.dY;obtain⟨v,w,rfl,d,a⟩:=c.inv2;obtain⟨t1,rfl⟩:=d.dY;obtain⟨t2,rfl⟩:=a.eN;exact Ny hc.1 hc.2.1 hc.2.2 λl tk e=>zX I e f
 bnd:=iC
theorem mQ.H7(hc:y.length≠0/\x.length+2<=lim)(e:H.alloc (.l ((Txt.split x y).map .s))=H1):mQ H .J3 (.s x) [.s y] (.r H.n) H1 where
 dir:=λf I a b d=>by
  subst e;obtain⟨t,rfl⟩:=a.dY;obtain⟨v,rfl,c⟩:=b.inv1;obtain⟨t1,rfl⟩:=c.dY;exact Nx hc.1 hc.2 λl tk e=>zX I e d
 bnd:=iC
theorem mQ.KY(hc:x.length<=lim):mQ H .J1 (.s x) [] (.s (Txt.strip x)) H where
 dir:=λd I a b c=>by
  obtain⟨t,rfl⟩:=a.dY;cases b.Nf;exact SC.strip (λe k=>c _ _ _ (dJ.toks _ I) (.str _ _)) ()
 bnd:=iC
structure mR (pe:Pe) (H:Hp) (b:Bf) (args:List V) (x:V) (H':Hp):Prop where
 go:∀{cx:Cx} {A:Around} {s:Shared} {W:Nat->Addr} {vs:List Value} {Q:Value->Shared->Prop} {E:Value->Shared->Prop},eY pe cx->A.handled=none->Inv cx W H s->dR H.n W s.heap vs args->(∀v s' ρ',dJ cx fV W H s ρ' H' s'->Rep H'.n ρ' s'.heap v x->Q v s')->wpAny cx.M A (call b.val vs) Q E s
def mR.Z5(hf:H.f i=.l xs)(hl:xs.length<=lim):mR pe H .len [.r i] (.i xs.length) H:=⟨λ{cx A s W vs Q E} P hh I ra hQ=>by
 obtain⟨v,rfl,a⟩:=ra.inv1;exact jm a.dX λhi=>f_len hi hf hl I λv s' S r=>hQ _ _ _ S r⟩
def mR.T9(hl:x.length<=lim):mR pe H .len [.s x] (.i x.length) H:=⟨λ{cx A s W vs Q E} P hh I ra hQ=>by
 obtain⟨v,rfl,a⟩:=ra.inv1;obtain⟨t,rfl⟩:=a.dY;have b:lim=16777216:=rfl;exact PySem.P.len_str () (hQ _ _ _ (dJ.toks _ I) (.int _ _))⟩
theorem mR.Z6(b:0<=x/\x<=1114111):mR pe H .chr [.i x] (.s ⟨#[x.toNat]⟩) H:=⟨λ{cx A s W vs Q E} P hh I ra hQ=>by
 obtain⟨v,rfl,a⟩:=ra.inv1;obtain⟨t,rfl⟩:=a.eN;exact PySem.P.chr_of_int () (hQ _ _ _ (dJ.toks _ I) (.str _ _))⟩
def mR.Ub(hf:H.f i=.d kvs)(hl:kvs.length<=lim)(e:H.alloc (.d kvs)=H1):mR pe H .dict [.r i] (.r H.n) H1:=⟨λ{cx A s W vs Q E} P hh I ra hQ=>by
 subst e;obtain⟨v,rfl,a⟩:=ra.inv1;exact jm a.dX λhi=>aak P.sys hi hf hl I λv s' ρ' S r=>hQ _ _ _ S r⟩
def mR.Z2(hf:H.f i=.l xs)(b:intsOf xs=some l):mR pe H .sum [.r i] (.i l.sum) H:=⟨λ{cx A s W vs Q E} P hh I ra hQ=>by
 obtain⟨v,rfl,a⟩:=ra.inv1;exact jm a.dX λhi=>aew hh hi hf b I λv s' S r=>hQ _ _ _ S r⟩
def mR.Z4(e:H.alloc (.e [])=H1):mR pe H .set [] (.r H.n) H1:=⟨λ{cx A s W vs Q E} P hh I ra hQ=>by
 subst e;cases ra.Nf;exact(Vm (hQ _ _ _ (dJ.new _ I (fC _) I.Ij (λU U e=>aq _ e) (iH.fresh (bR _ rfl)) rfl rfl) gq))⟩
def mR.DP(hf:H.f i=.l xs)(b:jq xs ys)(e:H.alloc (.l ys)=H1):mR pe H .sorted [.r i] (.r H.n) H1:=⟨λ{cx A s W vs Q E} P hh I ra hQ=>by
 subst e;obtain⟨v,rfl,a⟩:=ra.inv1;exact jm a.dX λhi=>Jd hh hi hf b I hQ⟩
def mR.I6(hf:H.f i=.d kvs)(b:jq (kvs.map λp=>.t [.s p.1,p.2]) ys)(e:H.alloc (.l ys)=H1):mR pe H .sorted [.w i] (.r H.n) H1:=⟨λ{cx A s W vs Q E} P hh I ra hQ=>by
 subst e;obtain⟨v,rfl,a⟩:=ra.inv1;exact Ot hh hf b I a hQ⟩
section
variable {pe:Pe} {n:Nat} {x:V}
def Ey.nil{n W h kvs}(a:Ey n W h kvs []):kvs=[]:=List.map_eq_nil_iff.mp a.names
variable {kws:List (Str×V)} {f:Addr}
def agK{y:V}(h:yU cx n f (y::args) kws H v H'):gV cx (n+1) (.m f y) args kws H v H':=λU U U U U U U U U i I c e d g=>by
 cases c with
 |obj j=>
  obtain⟨a,w,rfl,ho,b⟩:=j.ZG;exact wpAny_call (zZ ho (h i.f I (.cons b e) d g))
 |mt b=>exact wpAny_call (h i.f I (.cons b e) d g)
def KD(h:yU cx n f args kws H v H'):gV cx (n+1) (.f f) args kws H v H':=λU U U U U U U U U d I c b a g=>by
 cases c with
 |obj e=>cases e.Du;exact wpAny_call (h d.f I b a g)
def aco(P:eY pe cx){g:Addr}(a:pe.init f=some g)(h:yU cx n g (.r (H.n+1)::args) kws ((H.alloc (.n [])).alloc (.i f H.n)) .n H'):gV cx (n+1) (.f f) args kws H (.r (H.n+1)) H':=λU U U U U U U U U k I c d b e=>by
 cases c with
 |obj j=>cases j.Du;exact Dj P a h k I d b e
def Yk(P:eY pe cx){m:Pm}{y:V}(h:mQ H m y args v H'):gV cx (n+1) (.k m y) args [] H v H':=λU U U U U U U U U i I c d f e=>by
 cases f.nil;cases c with
 |obj g=>
  obtain⟨hp,a,w,rfl,ho,b⟩:=g.ZJ;exact h.bnd hp I ho b d e
 |bm b=>exact h.dir P.sys I b d e
def agL(P:eY pe cx){m:Bf}(h:mR pe H m args v H'):gV cx (n+1) (.e m) args [] H v H':=λU U U U U U U U U d I c b a g=>by
 cases a.nil;cases c with
 |obj f=>cases f.Dv;exact h.go P d.handled I b g
end
section
variable {pe:Pe} {n:Nat} {x:V}
theorem dJ.but(W7:Addr->Prop)(I:Inv cx W H s)(h:W7 a)(ap:∀i,i<H.n->W i≠a)(k:cx.g.get? a=none)(d:∀o,s.heap.get? a=some o->¬ Fz o)(c:Heap.ExtBut a s.heap s'.heap) (f:s'.os=s.os) (hb:s'.gens=s.gens):dJ cx W7 W H s W H s':=by
 refine⟨⟨λb o e=>c b o () (I.keep b o e),f.trans I.os,hb▸I.bare,λi hi=>?_,I.inj,I.low,I.st,I.Dd⟩,bT _,λU U=>rfl,λi h1 j=>absurd j (),λb o e m l=>c b o () e,λU U e=>hb▸e⟩;obtain⟨ob,e,_⟩:=(I.objs i hi).some;exact(I.objs i hi).mono ⟨bT _,λU U=>rfl,λb o e hc=>c b o (λq=>by subst q;exact d o e hc) e⟩ ((c _ _ (ap i hi) e).trans e.symm)
def oG{h:Heap}{m}(x:h.Ns a m):∀o,h.get? a=some o->¬ Fz o:=λo e hz=>by
 obtain⟨c,es,ep,b,hd,_⟩:=x;rw[e]at b;obtain rfl:=bh b;rcases hz.2 with⟨_,_,q⟩|⟨_,q⟩ <;> rw[hd]at q <;> cases q
def xX{h:Heap}{v}(x:h.IsCell a v):∀o,h.get? a=some o->¬ Fz o:=λo e hz=>by
 obtain⟨c,b,hd⟩:=x;rw[e]at b;obtain rfl:=bh b;rcases hz.2 with⟨_,_,q⟩|⟨_,q⟩ <;> rw[hd]at q <;> cases q
def lU{h:Heap}{d:Obj}(b:h.get? a=some d)(hc:d.cls=c)(f:nfB c=true):∀o,h.get? a=some o->¬ Fz o:=λo e hz=>by
 rw[e]at b;obtain rfl:=bh b;have q:=hz.1;rw[hc,f]at q;contradiction
def fK.YZ(X:fK cx T k W h J):∀a o,h.get? a=some o->Fz o->¬ Wr T a:=λa o e hz w=>by
 obtain⟨m,c,_⟩:=X.ns;rcases w with rfl|⟨y,w⟩
 exact oG c o e hz
 obtain⟨⟨v,b⟩,_⟩:=X.cells y a w;exact xX b o e hz
def fK.rep(I:Inv cx W H s)(X:fK cx T H.n W s.heap J)(S:dJ cx (Wr T) W H s ρ' H' s'){v y}(q:Rep H.n W s.heap v y):Rep H'.n ρ' s'.heap v y:=
 q.mono (S.kp I X.YZ)
def fK.zO(I:Inv cx W H s)(X:fK cx T H.n W s.heap J)(S:dJ cx (Wr T) W H s ρ' H' s'){v y}(q:dR H.n W s.heap v y):dR H'.n ρ' s'.heap v y:=
 q.mono (S.kp I X.YZ)
def fK.congr(X:fK cx T k W h J)(e:∀y v,dI.lookup y=some v->J.lookup y=some v):fK cx T k W h dI:=by
 obtain⟨m,a,b⟩:=X.ns;exact⟨⟨m,a,λy v q=>b y v (e y v q)⟩,λy v q=>X.cell y v (e y v q),X.BZ,X.Bw,X.cells,X.has,X.dist,X.low⟩
def La(h:own O y=true)(N:iZ cx T O):T.kindOf y=some .local\/T.kindOf y=some .cell:=by
 unfold own at h;generalize e:O.lookup y=k at h
 induction k using Option.casesOn with
 |none=>lia
 |some k=>
  cases k with
  |«local»=>exact .inl (N.kind' e ())
  |cell=>exact .inr (N.kind' e ())
  |_=>lia
theorem zJ{u:Value}(t:W7 T.locals)(x:∀c,T.kindOf y=some .cell->T.cells.lookup y=some c->W7 c)(hk:T.kindOf y=some .local\/T.kindOf y=some .cell)(hf:T.scope.kind=.function)(I:Inv cx W H s)(X:fK cx T H.n W s.heap J)(q:Rep H.n W s.heap u v) (D:∀s',dJ cx W7 W H s W H s'->dJ cx (Wr T) W H s W H s'->fK cx T H.n W s'.heap (eO J y v)->Q Unit.unit s'):wpAny cx.M A (storeName T y u) Q E s:=by
 obtain⟨m,h,C⟩:=X.ns;rcases hk with hk|hk
 refine wpAny_storeName_local hk h (λh' o a=>?_) ();have S:dJ cx (Wr T) W H s W H {s with heap:=h',toks:=s.toks+1}:=dJ.but _ I (.inl rfl) X.BZ X.low (oG h) a.extBut rfl rfl;refine D _ (dJ.but _ I t X.BZ X.low (oG h) a.extBut rfl rfl) S ⟨⟨_,o,λz w e k=>?_⟩,λz w e k=>?_,X.BZ,X.Bw,λz c e=>?_,X.has,X.dist,X.low⟩
 rw[eU]at e;by_cases hz:z=y
 rw[if_pos hz]at e;obtain rfl:=bh e;exact⟨u,if_pos hz,X.rep I S q⟩
 rw[if_neg hz]at e;obtain⟨d,h1,b⟩:=C z w e k;exact⟨d,(if_neg hz)▸h1,X.rep I S b⟩
 rw[eU]at e;by_cases hz:z=y
 lia
 rw[if_neg hz]at e;obtain⟨c,d,h1,b,r⟩:=X.cell z w e k;exact⟨c,d,h1,b.sameBut a (X.cells z c h1).2.1,X.rep I S r⟩
 obtain⟨⟨p,g⟩,h1,b⟩:=X.cells z c e;exact⟨⟨p,g.sameBut a h1⟩,h1,b⟩
 refine(X.has y hk).elim λc hc=>?_;obtain⟨⟨F,g⟩,l,B⟩:=X.cells y c hc;refine wpAny_storeName_cell hf hk hc g λh' f a=>?_;have S:dJ cx (Wr T) W H s W H {s with heap:=h'}:=dJ.but _ I (.inr ⟨y,hc⟩) (X.Bw y c hc) B (xX g) a.extBut rfl rfl;refine D _ (dJ.but _ I (x c hk hc) (X.Bw y c hc) B (xX g) a.extBut rfl rfl) S ⟨⟨_,h.sameBut a (Ne.symm l),λz w e k=>?_⟩,λz w e k=>?_,X.BZ,X.Bw,λz i e=>?_,X.has,X.dist,X.low⟩
 rw[eU]at e;by_cases hz:z=y
 lia
 rw[if_neg hz]at e;obtain⟨d,h1,b⟩:=C z w e k;exact⟨d,h1,X.rep I S b⟩
 rw[eU]at e;by_cases hz:z=y
 rw[if_pos hz]at e;obtain rfl:=bh e;subst hz;exact⟨c,u,hc,f,X.rep I S q⟩
 have e:=(if_neg hz)▸e;obtain⟨i,d,h1,b,r⟩:=X.cell z w e k;exact⟨i,d,h1,b.sameBut a (λq=>hz (X.dist z y c ((q).symm▸h1) hc)),X.rep I S r⟩
 obtain⟨⟨p,j⟩,h1,b⟩:=X.cells z i e;by_cases hz:i=c
 subst hz;exact⟨⟨_,f⟩,h1,b⟩
 exact⟨⟨p,j.sameBut a hz⟩,h1,b⟩
structure yR (O:Sc) (T:Env) (W7:Addr->Prop):Prop where
 l:W7 T.locals
 c:∀y c,own O y=true->T.kindOf y=some .cell->T.cells.lookup y=some c->W7 c
def yR.wr(O:Sc)(T:Env):yR O T (Wr T):=⟨.inl rfl,λy U U U e=>.inr ⟨y,e⟩⟩
def xJ{u:Value}(w:yR O T W7)(ho:own O y=true)(N:iZ cx T O)(I:Inv cx W H s)(X:fK cx T H.n W s.heap J)(q:Rep H.n W s.heap u v) (a:∀s',dJ cx W7 W H s W H s'->dJ cx (Wr T) W H s W H s'->fK cx T H.n W s'.heap (eO J y v)->Q Unit.unit s'):wpAny cx.M A (storeName T y u) Q E s:=
 zJ w.l (λc=>w.c y c ho) (La ho N) N.kind I X q a
def dJ.kW(S:dJ cx W7 W H s ρ' H' s')(T7:dJ cx W7 ρ' H' s' ρ' H' s''):dJ cx W7 W H s ρ' H' s'':=
 S.j5 T7 λi h1 a=>absurd a (Nat.not_lt.mpr h1)
def wJ{t:Expr}{id:Str}(h:isName t=some id):∃p,t=.Name id p:=by
 cases t with
 |Name i p=>obtain rfl:=bh h;exact⟨p,rfl⟩
 |_=>first|exact gB h|exact iC h|cases h
def kY{t:Expr}(h:jl O (t::ts) xs J=some dI):VD λid p y ys=>t=.Name id p/\xs=y::ys/\own O id=true/\jl O ts ys (eO J id y)=some dI:=by
 induction xs using List.casesOn with
 |nil=>exact gB h
 |cons y ys=>
  obtain⟨id,e,h'⟩:=Option.bind_eq_some_iff.mp h;obtain⟨p,rfl⟩:=wJ e;by_cases ho:own O id=true
  ·rw[if_pos ho]at h';exact⟨_,_,_,_,rfl,rfl,ho,h'⟩
  ·rw[if_neg ho]at h';exact gB h'
def lZ(h:jl O [] xs J=some dI):xs=[]/\dI=J:=by
 induction xs using List.casesOn with
 |nil=>obtain rfl:=bh h;exact⟨rfl,rfl⟩
 |cons y ys=>exact gB h
theorem yO(w:yR O T W7)(N:iZ cx T O):∀{xs:List V} {us:List Value} {J dI:Loc} {s:Shared} {Q:Unit->Shared->Prop},jl O ts xs J=some dI->Inv cx W H s->fK cx T H.n W s.heap J->dR H.n W s.heap us xs ->
  (∀s',dJ cx W7 W H s W H s'->dJ cx (Wr T) W H s W H s'->fK cx T H.n W s'.heap dI->Q Unit.unit s')->wpAny cx.M A (assignInOrder ((assignEach ts T).map (·.2)) us) Q E s:=by
 induction ts with
 |nil=>
  intro xs us J dI s Q h I X q a;obtain⟨rfl,rfl⟩:=lZ h;exact ak (a s (dJ.refl _ I) (dJ.refl _ I) X)
 |cons t ts ih=>
  intro xs us J dI s Q h I X q a;obtain⟨id,p,y,ys,rfl,rfl,ho,h⟩:=kY h;cases q with
  |cons i g=>
   exact aj (ao (wpAny_assign_Name (xJ w ho N I X i λs1 b c d=>(ih h b.inv d (X.zO I c g) λs2 j f X2=>a s2 (b.kW j) (c.kW f) X2))))
theorem yP:∀{xs:List V} {J dI:Loc},jl O ts xs J=some dI->(assignEach ts T).length=xs.length/\(assignEach ts T).findIdx? (·.1)=none:=by
 induction ts with
 |nil=>
  intro xs J dI h;obtain⟨rfl,rfl⟩:=lZ h;exact⟨rfl,rfl⟩
 |cons t ts ih=>
  intro xs J dI h;obtain⟨id,p,y,ys,rfl,rfl,ho,h⟩:=kY h;obtain⟨h1,a⟩:=ih h;have e:assignEach (.Name id p::ts) T=(false,assign _ T)::assignEach ts T:=rfl;rw[e];exact⟨congrArg _ h1,by rw[List.findIdx?_cons,a];rfl⟩
theorem Ax{it t:Addr}{items:Array Value}(h:t≠it)(n:Nat):∀(i:Nat) (s:Shared) (Q:List Value->Shared->Prop),s.heap.IsListIter it t i->s.heap.IsList t items->i+n<=items.size ->
  (∀h',h'.IsListIter it t (i+n)->Heap.SameBut it s.heap h'->Q ((items.toList.drop i).take n) {s with heap:=h'})->wpAny cx.M A (draw (.ref it) n) Q E s:=by
 induction n with
 |zero=>
  exact λi s Q d _ _ j=>ak (j s.heap d (Heap.SameBut.refl ..))
 |succ n ih=>
  intro i s Q d k l j;have f:i<items.size:=by lia
  refine aj (wpAny_pyNext_list_item d k (x:=items[i]) (by simp) λh₁ b a=>(aj (ao (ih _ _ _ b (k.extBut a.extBut h) () λg c e=>ak ?_))));have hd:items.toList.drop i=items[i]::items.toList.drop (i+1):=by simp[List.drop_eq_getElem_cons,f]
  have:=j g () (a.trans e);rw[hd]at this;exact this
theorem vL{t:Addr}{items:Array Value}(k:A.handled=none)(h:s.heap.IsList t items)(l:∀h',Heap.ExtBut s.heap.objs.size s.heap h'->Q items.toList {s with heap:=h'}):wpAny cx.M A (unpackItems (.ref t) items.size none) Q E s:=by
 have g:t≠s.heap.objs.size:=by obtain⟨o,ho,_⟩:=h;exact aY (aV ho)
 refine aj (aj (wpAny_specialOf h.typeIs slot_list_iter.lookup (ak (aj (ao (wpAny_pyIter_list h (aj (ao (Ax g items.size 0 _ _ ⟨_,bR _ rfl,rfl,rfl⟩ (h.push _) () λh₁ c a=>?_)))))))));have j:List.take items.size (List.drop 0 items.toList)=items.toList:=by
  exact List.drop_zero▸List.take_of_length_le (by simp)
 rw[j,if_neg (by simp)];refine aj (ao (wpAny_pyNext_list_end k c ((h.push _).extBut a.extBut g) (by simp) λi f=>(ak (l i λb o hb e=>f b o hb (a.extBut b o hb (aq _ e))))))
theorem vZ{u:Value}(b:A.handled=none)(h:unp H v=some xs)(I:Inv cx W H s)(q:Rep H.n W s.heap u v)(c:∀us s',dJ cx fV W H s W H s'->dR H.n W s'.heap us xs->Q us s'):wpAny cx.M A (unpackItems u xs.length none) Q E s:=by
 have go:∀{items:Array Value} {h'},dR H.n W s.heap items.toList xs->Heap.ExtBut s.heap.objs.size s.heap h'->Q items.toList {s with heap:=h'}:=λ{items h'} r e=>by
  have S:dJ cx fV W H s W H {s with heap:=h'}:=dJ.grown _ I (λa o q=>e a o (aY (aV q)) q) rfl rfl;exact c _ _ S (S.zO I r)
 cases v with
 |t ys=>
  cases h;obtain⟨a,vs,k,rfl,e,r⟩:=q.pQ;rw[<- size_of r];exact wpAny_unpackItems_tuple b (kI e) λh' e=>go r e
 |r i=>
  refine jm q.dX λhi=>?_;have h:Xj (H.f i)=some xs:=h;generalize hf:H.f i=o at h;cases o with
  |l ys=>
   cases h;obtain⟨vs,k,e,r⟩:=I.list hi hf;rw[<- size_of r];exact vL b (d8 e) λh' e=>go r e
  |_=>lia
 |_=>first|exact gB h|exact iC h|cases h
theorem nF(w:yR O T W7){t:Expr}{u:Value}(e:A.handled=none)(N:iZ cx T O)(h:iB O H t v J=some dI)(I:Inv cx W H s)(X:fK cx T H.n W s.heap J)(q:Rep H.n W s.heap u v) (c:∀s',dJ cx W7 W H s W H s'->dJ cx (Wr T) W H s W H s'->fK cx T H.n W s'.heap dI->Q Unit.unit s'):wpAny cx.M A (assign t T u) Q E s:=by
 cases t with
 |Name id p=>
  obtain⟨ho,rfl⟩:=fU h;exact wpAny_assign_Name (xJ w ho N I X q c)
 |Tuple ts a p=>
  obtain⟨xs,i,h⟩:=Option.bind_eq_some_iff.mp h;obtain⟨h1,d⟩:=yP h;refine aj (aW ?_);unfold unpack;rw[h1,d];exact aj (ao (vZ e i I q λus s1 b r1=>(yO w N h b.inv (X.step I b) r1 λs2 g j X2=>c s2 ((b.weaken λU f=>f.elim).kW g) ((b.weaken λU f=>f.elim).kW j) X2)))
 |_=>first|exact gB h|exact iC h|cases h
end
section
variable {pe:Pe} {n:Nat} {x:V}
def Kh:Builtin.Range.rangeSize 0 m 1=(m:Int):=by
 rw[rangeSize_one];by_cases h:(0:Int)<m
 ·rw[if_pos h,Int.sub_zero]
 ·rw[if_neg h];lia
def Hy(a:m<100000):Builtin.Range.small 0 m 1=true:=small_one () () () ()
inductive iM (n:Nat) (W:Nat->Addr) (h:Heap) (a:Addr) (k:Nat):V->Prop
 |list {i:Nat}:i<n->h.IsListIter a (W i) k->iM n W h a k (.r i)
 |tup {t:Addr} {vs:Array Value} {kk:Nat} {xs:List V}:h.get? t=some {cls:=.type "tuple",data:=.seq vs kk}->dR n W h vs.toList xs->h.IsTupleIter a t k->iM n W h a k (.t xs)
 |str {x:Str} {T7:String} {t:Tok}:T7="str_ascii_iterator"\/T7="str_iterator"->h.IsStrIter a T7 x t k->iM n W h a k (.s x)
 |rng {m:Nat}:k<=m->IsRangeIter h a k ((m:Int)-k) 1->iM n W h a k (.g m)
theorem iM.mono(K:Kp n W h n' ρ' h')(x:iM n W h a k v)(e:∀o,h.get? a=some o->h'.get? a=some o):iM n' ρ' h' a k v:=by
 induction x using iM.casesOn with
 |list hi it=>exact .list (aM hi K.le) (by rw[K.rY _ hi];obtain⟨o,h1,b⟩:=it;exact⟨o,e o h1,b⟩)
 |tup c q it=>exact .tup (K.I9 _ _ c ⟨nfT,.inl ⟨_,_,rfl⟩⟩) (q.mono K) (by obtain⟨o,h1,b⟩:=it;exact⟨o,e o h1,b⟩)
 |str f it=>exact .str f (by obtain⟨o,h1,b⟩:=it;exact⟨o,e o h1,b⟩)
 |rng d it=>exact .rng d (e _ it)
theorem iM.obj(x:iM n W h a k v):W6 λo c vs=>h.get? a=some o/\o.cls=.type c/\o.data=.fields vs/\["enumerate","zip","dict_itemiterator","dict_reverseitemiterator","odict_iterator","itertools.zip_longest","itertools.pairwise"].contains c=false/\¬ Fz o:=by
 induction x using iM.casesOn with
 |list hi it=>
  obtain⟨o,h1,b,d⟩:=it;exact⟨o,_,_,h1,b,d,(),lU h1 b rfl o h1⟩
 |tup f q it=>
  obtain⟨o,h1,b,d⟩:=it;exact⟨o,_,_,h1,b,d,(),lU h1 b rfl o h1⟩
 |str e it=>
  obtain⟨o,h1,b,d⟩:=it;rcases e with rfl|rfl
  exact⟨o,_,_,h1,b,d,(),lU h1 b rfl o h1⟩
  exact⟨o,_,_,h1,b,d,(),lU h1 b rfl o h1⟩
 |rng g it=>exact⟨_,_,_,it,rfl,rfl,(),lU it (c:=.type "range_iterator") rfl rfl _ it⟩
def uE(h:uF i o=some its):∃xs,o=.l xs/\some (xs,some i)=some its:=by
 cases o with
 |l xs=>exact⟨xs,rfl,h⟩
 |_=>exact gB h
theorem rH(h:items H v=some its):(Ex2 λi xs=>v=.r i/\H.f i=.l xs/\its=(xs,some i))\/(∃xs,v=.t xs/\its=(xs,none))\/(∃x,v=.s x/\its=(x.cps.toList.map λc=>.s ⟨#[c]⟩,none))\/∃m,v=.g m/\its=((List.range m).map λk:Nat=>.i k,none):=by
 cases v with
 |r i=>
  have h:uF i (H.f i)=some its:=h;generalize hf:H.f i=o at h;cases o with
  |l xs=>obtain rfl:=bh h;exact .inl ⟨_,_,rfl,hf,rfl⟩
  |_=>lia
 |t xs=>obtain rfl:=bh h;exact .inr (.inl ⟨_,rfl,rfl⟩)
 |s x=>obtain rfl:=bh h;exact .inr (.inr (.inl ⟨_,rfl,rfl⟩))
 |g m=>obtain rfl:=bh h;exact .inr (.inr (.inr ⟨_,rfl,rfl⟩))
 |_=>first|exact gB h|exact iC h|cases h
def lX(h:items H v=some (xs,src))(st:stands H H1 src):items H1 v=some (xs,src):=by
 rcases rH h with⟨i,ys,rfl,hf,e⟩|⟨ys,rfl,e⟩|⟨ys,rfl,e⟩|⟨ys,rfl,e⟩
 cases e
 show uF i (H1.f i)=_;rw[show H1.f i=H.f i from st,hf];rfl
 all_goals cases e;rfl
theorem uG{u:Value}(h:items H v=some its)(I:Inv cx W H s)(q:Rep H.n W s.heap u v)(b:∀a s',s.heap.get? a=none->dJ cx fV W H s W H s'->iM H.n W s'.heap a 0 v->Q (.ref a) s'):wpAny cx.M A (pyIter u) Q E s:=by
 have hp:∀o:Obj,dJ cx fV W H s W H {s with heap:=s.heap.push o}:=λo=>dJ.grown _ I (λU U e=>aq _ e) rfl rfl;rcases rH h with⟨i,ys,rfl,hf,e⟩|⟨ys,rfl,e⟩|⟨x,rfl,e⟩|⟨m,rfl,e⟩
 refine jm q.dX λhi=>?_;obtain⟨vs,k,e,r⟩:=I.list hi hf;exact wpAny_pyIter_list (d8 e) (b _ _ (fC _) (hp _) (.list hi ⟨_,bR _ rfl,rfl,rfl⟩))
 obtain⟨a,vs,k,rfl,e,r⟩:=q.pQ;exact wpAny_pyIter_tuple (kI e) (b _ _ (fC _) (hp _) (.tup (aq _ e) ((hp _).zO I r) ⟨_,bR _ rfl,rfl,rfl⟩))
 obtain⟨t,rfl⟩:=q.dY;refine wpAny_pyIter_strU (b _ _ (fC _) (hp _) (.str ?_ ⟨_,bR _ rfl,rfl,rfl⟩));unfold strIterType
 cases x.cps.all _
 exact .inr rfl
 exact .inl rfl
 obtain⟨c,a,t,u,w,rfl,e⟩:=q.Tr;refine wpAny_pyIter_range e (Hy c) ?_;rw[Kh];exact b _ _ (fC _) (hp _) (.rng () (by
  exact bR _ rfl))
structure Out (cx:Cx) (T:Env) (n:Nat) (W:Nat->Addr) (h:Heap) (a:Addr):Prop where
 al:∃o,h.get? a=some o/\¬ Fz o
 ap:∀i,i<n->W i≠a
 nw:¬ Wr T a
 low:cx.g.get? a=none
def Out.step(b:Out cx T H.n W s.heap a)(S:dJ cx W7 W H s ρ' H' s')(c:¬ W7 a):Out cx T H'.n ρ' s'.heap a:=by
 obtain⟨o,e,hz⟩:=b.al;exact⟨⟨o,S.ext a o e b.ap c,hz⟩,S.old e b.ap,b.nw,b.low⟩
def Out.nf(c:Out cx T n W h a):∀o,h.get? a=some o->¬ Fz o:=λo e=>by
 obtain⟨d,b,hz⟩:=c.al;rw[e]at b;obtain rfl:=bh b;exact hz
abbrev WL(T:Env)(as:List Addr):Addr->Prop:=λb=>Wr T b\/b∈as
theorem Gz{y:V}(h:items H v=some its)(hk:its.1[k]?=some y)(I:Inv cx W H s)(t:iM H.n W s.heap a k v)(g:Out cx T H.n W s.heap a)(w:∀u s',dJ cx (· = a) W H s W H s'->Out cx T H.n W s'.heap a->iM H.n W s'.heap a (k+1) v->Rep H.n W s'.heap u y->Q (some u) s'):wpAny cx.M A (pyNext (.ref a)) Q E s:=by
 have go:∀h' u,Heap.SameBut a s.heap h'->Rep H.n W s.heap u y->(Kp H.n W s.heap H.n W h'->iM H.n W h' a (k+1) v)->Q (some u) {s with heap:=h'}:=λh' u f r hi=>by
  have S:dJ cx (· = a) W H s W H {s with heap:=h'}:=dJ.but _ I rfl g.ap g.low g.nf f.extBut rfl rfl;have K:=S.kp I (λb o e hz q=>g.nf o (q▸e) hz);obtain⟨o,_,_,e,_,_,_,hz⟩:=(hi K).obj;exact w u _ S ⟨⟨o,e,hz⟩,g.ap,g.nw,g.low⟩ (hi K) (r.mono K)
 have j:∀h' u,Heap.SameBut a s.heap h'->Rep H.n W s.heap u y->(Kp H.n W s.heap H.n W h'->iM H.n W h' a (k+1) v)->Q (some u) {s with heap:=h',toks:=s.toks+1}:=λh' u f r hi=>by
  have S:dJ cx (· = a) W H s W H {s with heap:=h',toks:=s.toks+1}:=dJ.but _ I rfl g.ap g.low g.nf f.extBut rfl rfl;have K:=S.kp I (λb o e hz q=>g.nf o (q▸e) hz);obtain⟨o,_,_,e,_,_,_,hz⟩:=(hi K).obj;exact w u _ S ⟨⟨o,e,hz⟩,g.ap,g.nw,g.low⟩ (hi K) (r.mono K)
 have hk:∀{its'},some its'=some its->its'.1[k]?=some y:=λe=>bh e▸hk
 induction t using iM.casesOn with
 |list hi it=>
  obtain⟨ys,hf,z⟩:=uE h;obtain⟨vs,kk,e,q⟩:=I.list hi hf;obtain⟨u,l,p⟩:=q.get k (hk z);exact wpAny_pyNext_list_item it (d8 e) (bL▸l) λh' d f=>go h' u f p λK=>.list hi d
 |tup e q it=>
  obtain⟨u,l,p⟩:=q.get k (hk h);exact wpAny_pyNext_tuple_item it (kI e) (bL▸l) λh' d f=>go h' u f p λK=>.tup (K.I9 _ _ e ⟨nfT,.inl ⟨_,_,rfl⟩⟩) (q.mono K) d
 |@str x T7 t hT it=>
  obtain⟨c,hc,rfl⟩:=Option.map_eq_some_iff.mp (bW▸hk h);have hc:=bL▸hc;have up:∀h',Heap.SameBut a s.heap h'->Heap.IsStrIter h' a T7 x t (k+1)->Q (some (.str ⟨#[c]⟩ s.toks)) {s with heap:=h',toks:=s.toks+1}:=λh' f d=>j h' _ f (.str _ _) λK=>.str hT d;rcases hT with rfl|rfl
  ·exact wpAny_pyNext_ascii_item it hc λh' d f=>up h' f d
  ·exact wpAny_pyNext_wide_item it hc λh' d f=>up h' f d
 |@rng m hm it=>
  obtain⟨c,hc,rfl⟩:=Option.map_eq_some_iff.mp (bW▸hk h);obtain⟨i,rfl⟩:=List.getElem?_eq_some_iff.mp hc;rw[List.length_range]at i;rw[List.getElem_range]at j;exact wpAny_pyNext_range_item it (Int.sub_pos_of_lt (Int.ofNat_lt.mpr i)) λh' d f=>j h' _ f (.int _ _) λK=>.rng i (by rw[Int.natCast_succ,<- Int.sub_sub];exact d)
theorem M7(c:A.handled=none)(h:items H v=some its)(hk:its.1[k]?=none)(I:Inv cx W H s)(t:iM H.n W s.heap a k v)(d:Out cx T H.n W s.heap a)(i:∀s',dJ cx (· = a) W H s W H s'->Q none s'):wpAny cx.M A (pyNext (.ref a)) Q E s:=by
 have go:∀h',Heap.ExtBut a s.heap h'->Q none {s with heap:=h'}:=λh' g=>i _ (dJ.but _ I rfl d.ap d.low d.nf g rfl rfl)
 have b:∀{vs:Array Value} {xs:List V},dR H.n W s.heap vs.toList xs->xs[k]?=none->vs[k]?=none:=λ{vs xs} q e=>by
  rw[List.getElem?_eq_none_iff]at e;rw[Array.getElem?_eq_none_iff,size_of q];exact e
 have hk:∀{its'},some its'=some its->its'.1[k]?=none:=λe=>bh e▸hk
 induction t using iM.casesOn with
 |list hi it=>
  obtain⟨ys,hf,f⟩:=uE h;obtain⟨vs,kk,e,q⟩:=I.list hi hf;exact wpAny_pyNext_list_end c it (d8 e) (b q (hk f)) go
 |tup e q it=>exact wpAny_pyNext_tuple_end c it (kI e) (b q (hk h)) go
 |@str x T7 t hT it=>
  have hk:=bL▸Option.map_eq_none_iff.mp (bW▸hk h);rcases hT with rfl|rfl
  ·exact wpAny_pyNext_ascii_end c it hk go
  ·exact wpAny_pyNext_wide_end c it hk go
 |@rng m hm it=>
  have hk:=List.getElem?_eq_none_iff.mp (Option.map_eq_none_iff.mp (bW▸hk h));rw[List.length_range]at hk;exact wpAny_pyNext_range_end c it (Int.sub_nonpos_of_le (Int.ofNat_le.mpr hk)) go
theorem K9{o:Obj}{vs:Array Value}{u:Value}(e:s.heap.get? a=some o)(hc:o.cls=.type c)(hd:o.data=.fields vs)(f:["enumerate","zip","dict_itemiterator","dict_reverseitemiterator","odict_iterator","itertools.zip_longest","itertools.pairwise"].contains c=false) (d:Q Unit.unit s):wpAny cx.M A (letOwnedTupleGo target (.ref a) u) Q E s:=by
 have go:wpAny cx.M A (load a >>=λo=>match o.cls,o.data with
  |.type n,.fields vs=>
   if["enumerate","zip","dict_itemiterator","dict_reverseitemiterator","odict_iterator","itertools.zip_longest","itertools.pairwise"].contains n&&vs[0]?==some (rawInt (match u with|.ref b=>b|_=>0))then
    rule "for.unpacks-the-owned-tuple" >>=λU=>
    updateField a 0 .none
   else pure Unit.unit
  |_,_=>pure Unit.unit) Q E s:=by
  refine aj (wpAny_load e ?_);rw[hc,hd];exact VJ (f▸Bool.false_ne_true) (ak d)
 have p:wpAny cx.M A _ Q E s:=ak d;cases target with
 |Tuple=>cases u <;> first|exact go|exact p
 |List=>cases u <;> first|exact go|exact p
 |_=>exact p
def M6{u:Value}(t:iM n W s.heap a k v)(b:Q Unit.unit s):wpAny cx.M A (letOwnedTupleGo target (.ref a) u) Q E s:=by
 obtain⟨o,c,vs,e,hc,hd,d,_⟩:=t.obj;exact K9 e hc hd d b
def Gy(t:iM n W s.heap a k v)(b:Q (.ref a) s):wpAny cx.M A (pyIter (.ref a)) Q E s:=by
 induction t using iM.casesOn with
 |list _ it=>exact wpAny_pyIter_listiter it b
 |tup _ _ it=>exact wpAny_pyIter_tupleiter it b
 |str c it=>
  rcases c with rfl|rfl
  exact wpAny_pyIter_striter_ascii it b
  exact wpAny_pyIter_striter_wide it b
 |rng _ it=>exact wpAny_pyIter_rangeiter it b
def dJ.Yc(S:dJ cx (WL T as) W H s gw H1 s1)(c:fK cx T H1.n gw s1.heap eE)(al:∀a∈as,∃o,s1.heap.get? a=some o)(T7:dJ cx (WL T as) gw H1 s1 je H2 s2):dJ cx (WL T as) W H s je H2 s2:=
 S.j5 T7 λi h1 b w=>by
  rcases w with w|w
  exact c.zW T7 i h1 b w
  obtain⟨o,e⟩:=al _ w;rw[(T7.fresh i h1 b)]at e;exact gB e
def dJ.O4(S:dJ cx (λb=>W7 b\/b=a) W H s ρ' H' s')(c:s.heap.get? a=none):dJ cx W7 W H s ρ' H' s':=
 ⟨S.inv,S.le,S.rY,S.fresh,λb o e f d=>S.ext b o e f λq=>q.elim d λq=>(by rw[q,c]at e;exact gB e),S.gx⟩
theorem fK.same(I:Inv cx W H s)(X:fK cx T H.n W s.heap J)(S:dJ cx (· = a) W H s W H s')(h:Out cx T H.n W s.heap a):fK cx T H.n W s'.heap J:=by
 have K:=S.kp I (λb o e hz q=>h.nf o (q▸e) hz);obtain⟨m,j,p⟩:=X.ns;have up:=λc hc g o e=>S.ext c o e hc g;have f:∀y c,T.cells.lookup y=some c->¬ c=a:=λy c e q=>h.nw (.inr ⟨y,q▸e⟩);refine⟨⟨m,j.at' (up _ X.BZ (λq=>h.nw (.inl q.symm))),λy v e k=>?_⟩,λy v e k=>?_,X.BZ,X.Bw,λy c e=>?_,X.has,X.dist,X.low⟩
 obtain⟨u,h1,d⟩:=p y v e k;exact⟨u,h1,d.mono K⟩
 obtain⟨c,u,h1,d,r⟩:=X.cell y v e k;exact⟨c,u,h1,iY d (up _ (X.Bw y c h1) (f y c h1)),r.mono K⟩
 obtain⟨⟨v,l⟩,h1,d⟩:=X.cells y c e;exact⟨⟨v,iY l (up _ (X.Bw y c e) (f y c e))⟩,h1,d⟩
def drop_cons{α:Type}{l:List α}{x:α}{t:List α}(h:l.drop k=x::t):l[k]?=some x/\l.drop (k+1)=t/\k<l.length:=by
 have hk:k<l.length:=by
  rcases Nat.lt_or_ge k l.length with q|q
  exact q
  rw[List.drop_eq_nil_of_le q]at h;contradiction
 rw[List.drop_eq_getElem_cons hk]at h;simp only[List.cons.injEq]at h;exact⟨by rw[bk hk,h.1],h.2,hk⟩
def drop_nil{α:Type}{l:List α}(h:l.drop k=[]):l[k]?=none:=by
 rw[List.getElem?_eq_none_iff];exact List.drop_eq_nil_iff.mp h
def yV(cx:Cx)(n:Nat)(O:Sc)(target:Expr)(body:List Stmt)(src:Option Nat)(H0:Hp)(xs:List V)(J:Loc)(H:Hp)(fl:Fl)(dI:Loc)(H':Hp):Prop:=
 ∀⦃A T W s v ys k a⦄ ⦃R:Result->Shared->Prop⦄,items H0 v=some (ys,src)->items H v=some (ys,src)->ys.drop k=xs->Cn cx n O J H A T W s->iM H.n W s.heap a k v->Out cx T H.n W s.heap a ->
  (∀f s' ρ',dJ cx (WL T [a]) W H s ρ' H' s'->fK cx T H'.n ρ' s'.heap dI->Ez H'.n ρ' s'.heap f fl->R (.ok f) s')->codeAny cx.M A (.forLoop target (.ref a) body [] T) R s
theorem uN{s:Shared}{it:Value}(turn:wpAny cx.M A (pyNext it) (λr d=>match r with
   |none=>R (.ok .next) d
   |some v=>wpAny cx.M A (letOwnedTupleGo target it v) (λ_ c=>wpAny cx.M A (assign target T v) (λ_ g=>wpAny cx.M A (execs body T) (λf b=>match f with
      |.next|.cont=>codeAny cx.M A (.forLoop target it body [] T) R b
      |.brk=>R (.ok .next) b
      |.ret v=>R (.ok (.ret v)) b) (notedBy cx.M A T λe s'=>R (.error e) s') g) (notedBy cx.M A T λe s'=>R (.error e) s') c) (notedBy cx.M A T λe s'=>R (.error e) s') d) (notedBy cx.M A T λe s'=>R (.error e) s') s) :
  codeAny cx.M A (.forLoop target it body [] T) R s:=by
 refine bK (wpAny_noted (aj (aW (aj (wpAny_onRaise (bG turn (λr d h₁=>?_) λU U h'=>aW h'))))))
 induction r using Option.casesOn with
 |none=>exact ak ⟨rfl,codeAny_block (wpAny_execs_nil h₁)⟩
 |some v=>
  refine aj (bG h₁ (λ_ c h=>(aj (bG h (λ_ g i=>aj (bG i (λf b a=>?_) λU U h'=>h')) λU U h'=>h'))) λU U h'=>h');cases f with
  |next=>exact ak ⟨rfl,a⟩
  |cont=>exact ak ⟨rfl,a⟩
  |brk=>exact ak a
  |ret v=>exact ak a
variable {H0 H2:Hp} {fl:Fl}
def Out.has(c:Out cx T k W h a):∀b∈[a],∃o,h.get? b=some o:=λb hb=>by
 obtain⟨o,e,_⟩:=c.al;rw[List.mem_singleton]at hb;subst hb;exact⟨o,e⟩
def dJ.one(S:dJ cx (· = a) W H s ρ' H' s'):dJ cx (WL T [a]) W H s ρ' H' s':=S.weaken λb q=>.inr (List.mem_singleton.mpr q)
def dJ.left(S:dJ cx (Wr T) W H s ρ' H' s'):dJ cx (WL T as) W H s ρ' H' s':=S.weaken λb q=>.inl q
def WM:yV cx n O target body src H0 [] J H .next J H:=λA T W s v ys k a R _ hi hd C t b d=>
 uN (M7 C.ar.handled hi (drop_nil hd) C.inv t b λs2 c=>d _ _ _ c.one (C.vars.same C.inv c b) .next)
theorem Oq(hb:iB O H target x J=some eE)(w:vY cx n O body eE H fl mH H1)(hi:items H v=some (ys,src))(hd:ys.drop k=x::xs)(C:Cn cx n O J H A T W s)(t:iM H.n W s.heap a k v)(l:Out cx T H.n W s.heap a)(m:∀f s' ρ',dJ cx (WL T [a]) W H s ρ' H1 s'->fK cx T H1.n ρ' s'.heap mH->Ez H1.n ρ' s'.heap f fl->iM H1.n ρ' s'.heap a (k+1) v->Out cx T H1.n ρ' s'.heap a ->
   match f with|.next|.cont=>codeAny cx.M A (.forLoop target (.ref a) body [] T) R s'|.brk=>R (.ok .next) s'|.ret v=>R (.ok (.ret v)) s'):codeAny cx.M A (.forLoop target (.ref a) body [] T) R s:=by
 refine uN (Gz hi (drop_cons hd).1 C.inv t l λu s2 g c t2 r=>?_);have X2:=C.vars.same C.inv g l;refine M6 t2 (nF (yR.wr O T) C.ar.handled C.en hb g.inv X2 r λs3 b U i=>?_);have d:=c.step b c.nw;refine w (C.to b.inv i) λf y j h p q=>m f y j ((g.one.Yc X2 c.has b.left).Yc i d.has h.left) p q (iM.mono (h.kp b.inv i.YZ) (t2.mono (b.kp g.inv X2.YZ) λo e=>b.ext a o e c.ap c.nw) λo e=>h.ext a o e d.ap d.nw) (d.step h d.nw)
theorem Ou(hb:iB O H target x J=some eE)(p:vY cx n O body eE H fl mH H1)(c:uL fl=true)(st:stands H0 H1 src)(h:yV cx n O target body src H0 xs mH H1 fl' dI H2):yV cx n O target body src H0 (x::xs) J H fl' dI H2:=λA T W s v ys k a R b hi hd C t i j=>by
 refine Oq hb p hi hd C t i λf s1 gw g e m t1 d=>?_;have go:=h b (lX b st) (drop_cons hd).2.1 (C.to g.inv e) t1 d λf s' ρ' l X2 o=>j f s' ρ' (g.Yc e d.has l) X2 o;cases m with
 |next=>lia
 |cont=>lia
 |_=>lia
def aex(hb:iB O H target x J=some eE)(i:vY cx n O body eE H (.ret v) mH H1):yV cx n O target body src H0 (x::xs) J H (.ret v) mH H1:=λA T W s v ys k a R b hi hd C t c e=>
 Oq hb i hi hd C t c λf s1 gw h d g t1 j=>by cases g with|ret q=>exact e _ _ _ h d (.ret q)
def Bb(hl:∀y v,eE.lookup y=some v->J.lookup y=some v)(h:yV cx n O target body src H0 xs eE H fl dI H2):yV cx n O target body src H0 xs J H fl dI H2:=λU U U U U U U U U a hi hd C t c b=>h a hi hd (C.to C.inv (C.vars.congr hl)) t c b
def jA(I:Inv cx W H s)(b:s.heap.get? a=none):cx.g.get? a=none/\∀i,i<H.n->W i≠a:=by
 refine⟨?_,λi hi q=>?_⟩
 cases e:cx.g.get? a with
 |none=>rfl
 |some o=>rw[I.keep a o e]at b;contradiction
 obtain⟨ob,e,_⟩:=(I.objs i hi).some;rw[q,b]at e;exact gB e
def Out.fresh(I:Inv cx W H s)(X:fK cx T H.n W s.heap J)(b:s.heap.get? a=none)(e:∃o,h.get? a=some o/\¬ Fz o):Out cx T H.n W h a:=by
 obtain⟨f,g⟩:=jA I b;refine⟨e,g,λw=>?_,f⟩;obtain⟨m,⟨j,_,_,c,_⟩,_⟩:=X.ns;rcases w with w|⟨y,w⟩
 lia
 obtain⟨⟨v,i,d,_⟩,_⟩:=X.cells y a w;rw[d]at b;contradiction
def lq(h:gA e=false):∀x,foldedSetIterable e T x=pure x:=λx=>by
 cases e <;> first|rfl|contradiction
theorem Jy(t:gA iter=false)(h1:GE cx n O J iter H it H1)(hi:items H1 it=some (xs,src))(c:yV cx n O target body src H1 xs J H1 fl dI H2):GX cx (n+1) O (.For target iter body [] pos) J H fl dI H2:=λA T W s Q E C v=>by
 refine wpAny_For (h1 C.low λu s1 gw e r1=>?_) (lq t);have g:=C.low.step e;refine uG hi e.inv r1 λa s2 m h t2=>?_;obtain⟨o,_,_,l,_,_,_,hz⟩:=t2.obj;refine c hi hi List.drop_zero (g.step h) t2 (Out.fresh e.inv g.vars m ⟨o,l,hz⟩) λf s3 j k p r=>v f s3 j ?_ p r;have d:=(h.weaken λU f=>f.elim).j5 (k.weaken λb q=>q.imp id au) λi h1 c w=>by
  have hf:=k.fresh i h1 c;rcases w with w|w
  exact(g.step h).vars.zW k i h1 c w
  rw[w,l]at hf;contradiction
 exact(e.weaken λU f=>f.elim).j5 (d.O4 m) λi h1 c w=>g.vars.zW d i h1 c w
end
noncomputable def QH(ifs:List Expr)(next:Option Comprehension)(b:Sem Unit)(e:Expr)(depth:Nat)(it acc:Value)(T:Env):Sem PySem.Fin:=do
  let mut ok:=true
  for c in ifs do
   if ok then ok <- isTrue c T (eval c T)
  if ok then
   match next with
   |some a=>
    let x <- eval a.iter T
    standAt a.iter.pos
    let x <- if a.is_async !=0 then foldedIterable a.iter x else foldedSetIterable a.iter T x
    let _ <- runOwn (.compStart e (depth+1) (<- holding [x] (if a.is_async !=0 then asyncIter x else pyIter x)) acc T) T
   |none=>b
  again (.compLoop e depth it acc T)
def turnAt(target iter:Expr)(ifs:List Expr)(next:Option Comprehension)(a:Sem Unit)(e:Expr)(depth:Nat)(it acc:Value)(T:Env):Sem PySem.Fin:=do
 standAt iter.pos
 match <- pyNext it with
 |none=>pure (.done .next)
 |some v=>
  letOwnedTupleGo target it v
  assign target T v
  QH ifs next a e depth it acc T
noncomputable def WT(elt:Expr)(acc:Value)(T:Env):Sem Unit:=do let _ <- call (.builtin "list.append") [acc,<- eval elt T]
noncomputable def G5(k v:Expr)(acc:Value)(T:Env):Sem Unit:=do
 let kv <- eval k T
 let a <- holding [kv] (eval v T)
 match acc with
 |.ref d=>do
  standAt {k.pos with endLine:=v.pos.endLine,endCol:=v.pos.endCol}
  holding [kv,a] (dictSet d kv a)
 |_=>unsupported "internal:dictcomp"
def Xl{it:Value}(a:gens[depth]?=some ⟨target,iter,ifs,0⟩):compTurn (.ListComp elt gens scope pos) depth it acc T=turnAt target iter ifs (gens[depth+1]?) (WT elt acc T) (.ListComp elt gens scope pos) depth it acc T:=by
 unfold compTurn;dsimp only;rw[a];rfl
def Xm{k v:Expr}{it:Value}(a:gens[depth]?=some ⟨target,iter,ifs,0⟩):compTurn (.DictComp k v gens scope pos) depth it acc T=turnAt target iter ifs (gens[depth+1]?) (G5 k v acc T) (.DictComp k v gens scope pos) depth it acc T:=by
 unfold compTurn;dsimp only;rw[a];rfl
section
variable {pe:Pe} {n:Nat} {x:V}
structure CompE (e:Expr):Prop where
 aiz:∀(M:Model) prog w d it acc T,M=model prog w->M.den (.compStart e d it acc T)=(compStart e d it acc T).onRaise (λx=>do noteFrame x T;standAt theWindowsPlace)
 U3:∀(M:Model) prog w d it acc T,M=model prog w->M.den (.compLoop e d it acc T)=(compTurn e d it acc T).onRaise (λx=>do noteFrame x T;theTreesLotGoes x)
 agv:∀(A:Around) d it acc T,A.under (.compStart e d it acc T)=A
 Xk:∀(A:Around) d it acc T,A.under (.compLoop e d it acc T)=A
def Vc(elt gens scope pos):CompE (.ListComp elt gens scope pos):=⟨λU U U U U U U e=>by subst e;rfl,λU U U U U U U e=>by subst e;rfl,λU U U U U=>Around.under_of_weight rfl,λU U U U U=>Around.under_of_weight rfl⟩
def Vd(k v gens scope pos):CompE (.DictComp k v gens scope pos):=⟨λU U U U U U U e=>by subst e;rfl,λU U U U U U U e=>by subst e;rfl,λU U U U U=>Around.under_of_weight rfl,λU U U U U=>Around.under_of_weight rfl⟩
theorem uX(C:CompE e){it:Value}(b:(clausesOf e)[depth]?=some ⟨target,iter,ifs,0⟩)(h0:codeAny cx.M A (.compLoop e depth it acc T) R s)(h:wpAny cx.M A (pyIter it) (λa s'=>codeAny cx.M A (.compLoop e depth a acc T) R s') (notedBy cx.M A T λx s'=>R (.error x) s') s):codeAny cx.M A (.compStart e depth it acc T) R s:=by
 refine bK ?_;rw[C.aiz _ _ _ _ _ _ _ rfl,C.agv];refine wpAny_notedAt ?_;unfold compStart;rw[b];refine aj (wpAny_askSetting (wpAny_ite ?_))
 split
 first
  |exact ak ()
 exact aj (wpAny_rule (aj (aW (aj (bG h (λa s' h'=>ak ()) λU U x=>x)))))
theorem fK.j8(I:Inv cx W H s)(X:fK cx T H.n W s.heap J)(S:dJ cx W7 W H s ρ' H' s')(i:∀b,Wr T b->¬ W7 b)(hz:∀b o,s.heap.get? b=some o->Fz o->¬ W7 b):fK cx T H'.n ρ' s'.heap J:=by
 have K:=S.kp I hz;obtain⟨m,j,p⟩:=X.ns;obtain⟨q,_,_,h,_⟩:=id j;have f:=λy c hc o e=>S.ext c o e (X.Bw y c hc) (i _ (.inr ⟨y,hc⟩));refine⟨⟨m,j.at' (λo e=>S.ext T.locals o e X.BZ (i _ (.inl rfl))),λy v e k=>?_⟩,λy v e k=>?_,S.old h X.BZ,λy c e=>?_,λy c e=>?_,X.has,X.dist,X.low⟩
 obtain⟨u,a,b⟩:=p y v e k;exact⟨u,a,b.mono K⟩
 obtain⟨c,u,a,b,d⟩:=X.cell y v e k;exact⟨c,u,a,iY b (f y c a),d.mono K⟩
 obtain⟨⟨v,o,ho,_⟩,_,_⟩:=X.cells y c e;exact S.old ho (X.Bw y c e)
 obtain⟨⟨v,l⟩,a,b⟩:=X.cells y c e;exact⟨⟨v,iY l (f y c e)⟩,a,b⟩
def Ep:∀{xs:List V} {J dI:Loc},jl O ts xs J=some dI->∀y v,J.lookup y=some v->(∀z∈ts.filterMap isName,z≠y)->dI.lookup y=some v:=by
 induction ts with
 |nil=>intro xs J dI h y v e _;exact jm (lZ h) λrfl=>e
 |cons t ts ih=>
  intro xs J dI h y v e a;obtain⟨id,p,z,zs,rfl,rfl,ho,h⟩:=kY h;refine ih h y v ?_ λz hz=>a z (List.mem_cons_of_mem _ hz);rw[eU,if_neg (Ne.symm (a id cQ))];exact e
theorem wN{t:Expr}(h:iB O H t v J=some dI)(hf:(jf t).any (λx=>(J.lookup x).isSome)=false):∀y w,J.lookup y=some w->dI.lookup y=some w:=by
 intro y w e;have b:∀z∈jf t,z≠y:=λz hz q=>by
  rw[List.any_eq_false]at hf;exact hf z hz (by rw[q,e];rfl)
 cases t with
 |Name id p=>
  obtain⟨_,rfl⟩:=fU h;rw[eU,if_neg (Ne.symm (b _ cQ))];exact e
 |Tuple ts a p=>
  obtain⟨xs,_,h⟩:=Option.bind_eq_some_iff.mp h;exact Ep h y w e b
 |_=>first|exact gB h|exact iC h|cases h
def gH.j8(I:Inv cx W H s)(S:dJ cx W7 W H s ρ' H' s')(hz:∀b ob,s.heap.get? b=Option.some ob->Fz ob->¬ W7 b)(hD:¬ W7 D)(ap:∀i,i<H.n->W i≠D)(q:gH cx.prog cx.w H.n W s.heap D o):gH cx.prog cx.w H'.n ρ' s'.heap D o:=by
 obtain⟨ob,e,_⟩:=q.some;exact q.mono (S.kp I hz) ((S.ext D ob e ap hD).trans e.symm)
def WC(O:Sc)(T:Env)(as:List Addr):Addr->Prop:=λb=>b∈T.locals::as\/∃y,O.lookup y=some .cell/\T.cells.lookup y=some b
def WC.split{b:Addr}(w:WC O T as b):Wr T b\/b∈as:=by
 rcases w with w|⟨y,_,w⟩
 exact(aA w).imp .inl id
 exact .inl (.inr ⟨y,w⟩)
def dJ.Kz(S:dJ cx (WC O T as) W H s gw H1 s1)(c:fK cx T H1.n gw s1.heap eE)(al:∀a∈as,∃o,s1.heap.get? a=some o)(T7:dJ cx (WC O T as) gw H1 s1 je H2 s2):dJ cx (WC O T as) W H s je H2 s2:=
 S.j5 T7 λi h1 b w=>by
  rcases w.split with w|w
  exact c.zW T7 i h1 b w
  obtain⟨o,e⟩:=al _ w;rw[(T7.fresh i h1 b)]at e;exact gB e
def wrC(N:iZ cx T O):yR O T (WC O T as):=
 ⟨.inl (.head _),λy c ho hk hc=>by
  unfold own at ho;generalize e:O.lookup y=k at ho
  induction k using Option.casesOn with
  |none=>lia
  |some k=>
   cases k with
   |«local»=>rw[N.kind' e ()]at hk;contradiction
   |cell=>exact .inr ⟨y,e,hc⟩
   |_=>first|exact gB ho|exact iC ho|cases ho⟩
def VH{m m':Sem α}{Q:α->Shared->Prop}(e:m=m')(h:wpAny M A m' Q E s):wpAny M A m Q E s:=e▸h
noncomputable def nextOf(next:Option Comprehension)(b:Sem Unit)(e:Expr)(depth:Nat)(acc:Value)(T:Env)(k:Sem PySem.Fin):Sem PySem.Fin:=
 match next with
 |some a=>eval a.iter T >>=λx=>standAt a.iter.pos >>=λU=>
   (λc:Value->Sem PySem.Fin=>if a.is_async !=0 then foldedIterable a.iter x >>=c else foldedSetIterable a.iter T x >>=c) λx=>
    holding [x] (if a.is_async !=0 then asyncIter x else pyIter x) >>=λit=>runOwn (.compStart e (depth+1) it acc T) T >>=λU=>k
 |none=>b >>=λU=>k
def yF(em:Em)(acc:Value)(T:Env):Sem Unit:=match em with
 |.el e=>WT e acc T
 |.kv k v=>G5 k v acc T
def objOf(em:Em)(ys:List V):dN:=match em with
 |.el _=>.l ys
 |.kv _ _=>.d (iu ys)
structure qy (e:Expr) (em:Em):Prop extends CompE e where
 turn:∀{depth target iter ifs it acc T},(clausesOf e)[depth]?=some ⟨target,iter,ifs,0⟩->compTurn e depth it acc T=turnAt target iter ifs ((clausesOf e)[depth+1]?) (yF em acc T) e depth it acc T
def G9(elt gens scope pos):qy (.ListComp elt gens scope pos) (.el elt):=⟨Vc _ _ _ _,Xl⟩
def qm(k v gens scope pos):qy (.DictComp k v gens scope pos) (.kv k v):=⟨Vd _ _ _ _ _,Xm⟩
def Ho(cx:Cx)(n:Nat)(O:Sc)(em:Em)(gens:List Comprehension)(target:Expr)(ifs:List Expr)(J:Loc)(src:Option Nat)(H0:Hp)(xs:List V)(H:Hp)(ys:List V)(H':Hp):Prop:=
 (jf target).any (λx=>(J.lookup x).isSome)=false->∀⦃A T W s v zs k a D e depth iter q8⦄ ⦃R:Result->Shared->Prop⦄,qy e em->(clausesOf e).drop depth=⟨target,iter,ifs,0⟩::gens->items H0 v=some (zs,src)->items H v=some (zs,src)->zs.drop k=xs ->
  Cn cx n O J H A T W s->iM H.n W s.heap a k v->Out cx T H.n W s.heap a->Out cx T H.n W s.heap D->a≠D->gH cx.prog cx.w H.n W s.heap D (objOf em q8)->q8.length+ys.length<=lim ->
  (∀s' ρ',dJ cx (WC O T [a,D]) W H s ρ' H' s'->fK cx T H'.n ρ' s'.heap J->Out cx T H'.n ρ' s'.heap D->gH cx.prog cx.w H'.n ρ' s'.heap D (objOf em (q8++ys))->R (.ok .next) s')->codeAny cx.M A (.compLoop e depth (.ref a) (.ref D) T) R s
def Fb(cx:Cx)(n:Nat)(O:Sc)(em:Em)(gens:List Comprehension)(J:Loc)(H:Hp)(ys:List V)(H':Hp):Prop:=
 ∀⦃A T W s D e depth q8⦄ ⦃Q:PySem.Fin->Shared->Prop⦄ ⦃E⦄ ⦃kk:Sem PySem.Fin⦄,qy e em->(clausesOf e).drop (depth+1)=gens->Cn cx n O J H A T W s->Out cx T H.n W s.heap D->gH cx.prog cx.w H.n W s.heap D (objOf em q8)->q8.length+ys.length<=lim ->
  (∀s' ρ',dJ cx (WC O T [D]) W H s ρ' H' s'->fK cx T H'.n ρ' s'.heap J->Out cx T H'.n ρ' s'.heap D->gH cx.prog cx.w H'.n ρ' s'.heap D (objOf em (q8++ys))->wpAny cx.M A kk Q E s') ->
  wpAny cx.M A (nextOf ((clausesOf e)[depth+1]?) (yF em (.ref D) T) e depth (.ref D) T kk) Q E s
variable {H0 H2:Hp}
def oX(c:Out cx T k W h a):∀b ob,h.get? b=some ob->Fz ob->¬ b=a:=λb ob q hz e=>c.nf ob (e▸q) hz
def Out.two(d:Out cx T k W h a)(c:Out cx T k W h D):∀b∈[a,D],∃o,h.get? b=some o:=λb hb=>by
 rcases aA hb with rfl|hb
 obtain⟨o,e,_⟩:=d.al;exact⟨o,e⟩
 exact c.has b hb
def dJ.Ig(S:dJ cx (· = a) W H s ρ' H' s'):dJ cx (WC O T (a::as)) W H s ρ' H' s':=S.weaken λb q=>.inl (.tail _ (q▸.head _))
def dJ.nilC(S:dJ cx (WC O T []) W H s ρ' H' s'):dJ cx (WC O T as) W H s ρ' H' s':=S.weaken λb q=>q.imp (λq=>by rw[au q];exact .head _) id
def dJ.tlC(S:dJ cx (WC O T [D]) W H s ρ' H' s'):dJ cx (WC O T [a,D]) W H s ρ' H' s':=S.weaken λb q=>q.imp (λq=>(aA q).elim (λq=>by rw[q];exact .head _) λq=>.tail _ (.tail _ q)) id
theorem El:Ho cx n O em gens target ifs J src H0 [] H [] H:=λ_ A T W s v zs k a D e depth iter q8 R C hd _ hi hz c t f OD b rD _ g=>by
 refine bK ?_;rw[C.U3 _ _ _ _ _ _ _ rfl,C.turn (drop_cons hd).1];exact wpAny_noted (aj (aW (aj (M7 c.ar.handled hi (drop_nil hz) c.inv t f λs2 d=>ak (g _ _ d.Ig (c.vars.same c.inv d f) (OD.step d λq=>b q.symm) (by rw[aX];exact gH.j8 c.inv d (oX f) (λq=>b q.symm) OD.ap rD))))))
theorem Hg(hb:iB O H target x J=some eE)(h1:zf cx n O eE ifs H b H1)(C:qy e em)(hd:(clausesOf e).drop depth=⟨target,iter,ifs,0⟩::gens)(hi:items H v=some (zs,src))(hz:zs.drop k=x::xs)(c:Cn cx n O J H A T W s) (t:iM H.n W s.heap a k v) (p:Out cx T H.n W s.heap a) (OD:Out cx T H.n W s.heap D) (m:a≠D) (rD:gH cx.prog cx.w H.n W s.heap D (objOf em q8))(h:∀s' ρ',dJ cx (WC O T [a,D]) W H s ρ' H1 s'->Cn cx n O eE H1 A T ρ' s'->iM H1.n ρ' s'.heap a (k+1) v->Out cx T H1.n ρ' s'.heap a->Out cx T H1.n ρ' s'.heap D->gH cx.prog cx.w H1.n ρ' s'.heap D (objOf em q8) ->
   wpAny cx.M A (bif b then nextOf ((clausesOf e)[depth+1]?) (yF em (.ref D) T) e depth (.ref D) T (again (.compLoop e depth (.ref a) (.ref D) T))else again (.compLoop e depth (.ref a) (.ref D) T)) (λfin s'=>match fin with|.done f=>R (.ok f) s'|.again G=>G.quiet=true/\codeAny cx.M A G R s') (notedBy cx.M A T λe s'=>R (.error e) s') s') :
  codeAny cx.M A (.compLoop e depth (.ref a) (.ref D) T) R s:=by
 refine bK ?_;rw[C.U3 _ _ _ _ _ _ _ rfl,C.Xk,C.turn (drop_cons hd).1];refine wpAny_noted (aj (aW (aj (Gz hi (drop_cons hz).1 c.inv t p λu s2 j r t2 I=>?_))));have X2:=c.vars.same c.inv j p;have d:=OD.step j λq=>m q.symm;refine aj (M6 t2 (aj (nF (wrC (as:=[]) c.en) c.ar.handled c.en hb j.inv X2 I λs3 g F z=>?_)));have nl:∀{b},Out cx T H.n W s2.heap b->¬ WC O T [] b:=λp w=>w.split.elim p.nw λq=>nomatch q;have E:=r.step g (nl r);have l:=d.step g (nl d);refine aj (h1 (c.to g.inv z) λK B i=>?_);refine VH ?_ (h K B ?_ ((c.to g.inv z).step i) ?_ (E.step i id) (l.step i id) ?_)
 cases b
 rfl
 rfl
 exact(j.Ig.Kz X2 (r.two d) g.nilC).Kz z (E.two l) (i.weaken λU q=>q.elim)
 exact iM.mono (i.kp g.inv λU U U U x=>x) (t2.mono (F.kp j.inv X2.YZ) λo e=>g.ext a o e r.ap (nl r)) λo e=>i.ext a o e E.ap id
 exact gH.j8 g.inv i () id l.ap (gH.j8 j.inv F X2.YZ d.nw d.ap (gH.j8 c.inv j (oX p) () OD.ap rD))
theorem Pj(hb:iB O H target x J=some eE)(h1:zf cx n O eE ifs H false H1)(st:stands H0 H1 src)(j:Ho cx n O em gens target ifs J src H0 xs H1 ys H2):Ho cx n O em gens target ifs J src H0 (x::xs) H ys H2:=λhf A T W s v zs k a D e depth iter q8 R C hd b hi hz c t l OD d rD hl o=>
 Hg hb h1 C hd hi hz c t l OD d rD λs1 gw m g t1 i f h=>ak ⟨rfl,j hf C hd b (lX b st) (drop_cons hz).2.1 (g.to g.inv (g.vars.congr (wN hb hf))) t1 i f d h hl λs2 je p X2 r q=>o s2 je (m.Kz g.vars (i.two f) p) X2 r q⟩
theorem yJ(hb:iB O H target x J=some eE)(h1:zf cx n O eE ifs H true H1)(E:Fb cx n O em gens eE H1 ys H2)(st:stands H0 H2 src)(h3:Ho cx n O em gens target ifs J src H0 xs H2 zs H3):Ho cx n O em gens target ifs J src H0 (x::xs) H (ys++zs) H3:=λhf A T W s v vs k a D e depth iter q8 R C hd h hi hz c t F OD f rD hl z=>by
 refine Hg hb h1 C hd hi hz c t F OD f rD λs1 gw L i t1 l d r=>?_;have hl:=aC▸hl;have p:(clausesOf e).drop (depth+1)=gens:=by rw[<- List.drop_drop,hd];rfl
 refine E C p i d r () λs2 je g X2 j K=>ak ⟨rfl,?_⟩;have u:¬ WC O T [D] a:=λw=>w.split.elim l.nw λw=>f (au w);have y:=l.step g u;refine h3 hf C hd h (lX h st) (drop_cons hz).2.1 (i.to g.inv (X2.congr (wN hb hf))) (t1.mono (g.kp i.inv (λb ob q hz w=>w.split.elim (i.vars.YZ b ob q hz) λw=>d.nf ob (au w▸q) hz)) λo e=>g.ext a o e l.ap u) y j f K ?_ λs3 m I G N B=>z s3 m ((L.Kz i.vars (l.two d) g.tlC).Kz X2 (y.two j) I) G N (aQ .. ▸ B);rw[aC,Nat.add_assoc];exact hl
theorem Ni(Z:gA iter=false)(h1:GE cx n O J iter H it H1)(hi:items H1 it=some (xs,src))(hf:(jf target).any (λx=>(J.lookup x).isSome)=false)(k:Ho cx n O em gens target ifs J src H1 xs H1 ys H2):Fb cx n O em (⟨target,iter,ifs,0⟩::gens) J H ys H2:=λA T W s D e depth q8 Q E kk C hd c OD rD hl hQ=>by
 obtain⟨a,_,_⟩:=drop_cons hd;rw[a];refine aj (h1 c λu s3 B l X=>aj (aW (aj (bH (lq Z u) (aj (ao ?_))))));have y:=c.step l;refine uG hi l.inv X λv s4 d t K=>?_;have N:=y.step t;have j:=OD.step l id;have o:=j.step t id;obtain⟨ob,_,_,L,_,_,_,hz⟩:=K.obj;have G:=Out.fresh l.inv y.vars d ⟨ob,L,hz⟩;obtain⟨o3,P,_⟩:=j.al;obtain⟨o4,e4,_⟩:=o.al;have p:v≠D:=λq=>by rw[q,P]at d;contradiction
 have g:codeAny cx.M A (.compLoop e (depth+1) (.ref v) (.ref D) T) (λr s'=>match r with|.ok f=>wpAny cx.M A kk Q E s'|.error x=>cameBackBy cx.M A T E x s') s4:=by
  refine k hf C hd hi hi List.drop_zero N K G o p (gH.j8 l.inv t (λU U U U x=>x) id j.ap (gH.j8 c.inv l (λU U U U x=>x) id OD.ap rD)) hl λs5 m S5 R V S=>?_;have F:dJ cx (λb=>WC O T [D] b\/b=v) B H1 s4 m H2 s5:=S5.weaken λb q=>q.elim (λq=>(aA q).elim (λq=>.inl (.inl (q▸.head _))) λq=>(aA q).elim .inr λq=>.inl (.inl (.tail _ q))) λq=>.inl (.inr q)
  have h:=(t.weaken λU f=>f.elim).j5 F λi h1 k w=>by
   have hf:=S5.fresh i h1 k;rcases w with w|w
   rcases w.split with w|w
   exact N.vars.zW S5 i h1 k w
   rw[au w,e4]at hf;contradiction
   rw[w,L]at hf;contradiction
  refine hQ s5 m ((l.weaken λU f=>f.elim).j5 (h.O4 d) λi h1 k w=>?_) R V S;rcases w.split with w|w
  exact y.vars.zW h i h1 k w
  have hf:=h.fresh i h1 k;rw[au w,P]at hf;contradiction
 refine aj (wpAny_runOwn (uX C.toCompE a () ?_))
 exact Gy K ()
end
noncomputable def uY(cells:List (Str×Addr)):List (Str×NameKind)->List (Str×Addr)->List (Str×Addr)
 |[],cs=>cs
 |(x,k)::r,cs=>if k==.free then uY cells r ((x,(cells.lookup x).getD 0)::cs)else uY cells r cs
def qZ{cs:List (Str×Addr)}{r:List (Str×NameKind)}:uY cells (p::r) cs=if(p.2==.free)=true then uY cells r ((p.1,(cells.lookup p.1).getD 0)::cs)else uY cells r cs:=rfl
theorem Ej:∀{names:List (Str×NameKind)} {cs:List (Str×Addr)},(∀p∈names,p.2=.free->∃c,T.cells.lookup p.1=some c) ->
  (forIn names cs λ(p:Str×NameKind) (cs:List (Str×Addr))=>(match p with|(name,kind)=>if kind==.free then(do let a <- cellOf T name;pure (ForInStep.yield ((name,a)::cs)))else pure (ForInStep.yield cs)):Sem (List (Str×Addr)))=pure (uY T.cells names cs):=by
 intro names
 induction names with
 |nil=>exact λU=>rfl
 |cons p r ih=>
  intro cs h;obtain⟨x,k⟩:=p;have ih:=λcs=>ih (cs:=cs) λp hp=>h p (List.mem_cons_of_mem _ hp);rw[List.forIn_cons,qZ];by_cases hk:(k==NameKind.free)=true
  ·refine(h _ cQ (beq_iff_eq.mp hk)).elim λc hc=>?_;have e:cellOf T x=pure c:=by unfold cellOf;rw[hc]
   have b:(T.cells.lookup x).getD 0=c:=by rw[hc];rfl
   show((if(k==NameKind.free)=true then _ else _) >>=_)=_;rw[if_pos hk,if_pos hk,b,e];exact ih _
  ·show((if(k==NameKind.free)=true then _ else _) >>=_)=_;rw[if_neg hk,if_neg hk];exact ih cs
def Ek(h:∀p∈scope.names,p.2=.free->∃c,T.cells.lookup p.1=some c):closureFor scope T=pure (uY T.cells scope.names []):=by
 show(forIn scope.names [] _ >>=pure)=_;rw[show(forIn scope.names [] _:Sem _)=pure _ from(Ej h)];rfl
theorem Bo:∀{cs:List (Str×Addr)} {c:Addr},(∀p∈names,p.2=.free->∃c,cells.lookup p.1=some c)->(∀c,cs.lookup x=some c->cells.lookup x=some c)->(uY cells names cs).lookup x=some c->cells.lookup x=some c:=by
 induction names with
 |nil=>exact λU h e=>h _ e
 |cons p r ih=>
  intro cs c d h e;have a:=λq f=>d q (List.mem_cons_of_mem _ f);rw[qZ]at e;by_cases hk:(p.2==.free)=true
  ·rw[if_pos hk]at e;refine ih a (λg b=>?_) e;by_cases q:x=p.1
   ·obtain⟨i,h0⟩:=d p cQ (beq_iff_eq.mp hk);rw[q,cN,h0]at b;rw[q,h0];exact b
   ·rw[gF (p:=(p.1,(cells.lookup p.1).getD 0)) (bB q)]at b;exact h g b
  ·rw[if_neg hk]at e;exact ih a h e
theorem Pn:∀{cs:List (Str×Addr)},((x,.free)∈names\/∃c,cs.lookup x=some c)->∃c,(uY cells names cs).lookup x=some c:=by
 induction names with
 |nil=>exact λh=>h.elim (λq=>absurd q cR) id
 |cons p r ih=>
  intro cs h;rw[qZ];by_cases hk:(p.2==.free)=true
  ·rw[if_pos hk];refine ih ?_;by_cases q:x=p.1
   ·rw[q,cN];exact .inr ⟨_,rfl⟩
   ·rw[gF (p:=(p.1,(cells.lookup p.1).getD 0)) (bB q)];exact h.imp (λh=>(aA h).resolve_left λe=>q (congrArg Prod.fst e)) id
  ·rw[if_neg hk];exact ih (h.imp (λh=>(aA h).resolve_left λe=>hk (by rw[<- e];rfl)) id)
theorem um:∀{names:List (Str×NameKind)},
  (names.map λ(n,k)=>if(k==NameKind.free&&T.scope.kind==.function&&T.kindOf n==some .cell)then(n,NameKind.cell)else(n,k)).lookup x=(names.lookup x).map λk=>if(k==NameKind.free&&T.scope.kind==.function&&T.kindOf x==some .cell)then NameKind.cell else k:=by
 intro names
 induction names with
 |nil=>rfl
 |cons p r ih=>
  obtain⟨n,k⟩:=p;by_cases a:x=n
  ·subst a;rw[cN];by_cases hc:(k==NameKind.free&&T.scope.kind==.function&&T.kindOf x==some .cell)=true
   ·show(List.lookup x ((if _ then _ else _)::_))=some (if _ then _ else _);rw[if_pos hc,if_pos hc];exact cN
   ·show(List.lookup x ((if _ then _ else _)::_))=some (if _ then _ else _);rw[if_neg hc,if_neg hc];exact cN
  ·rw[gF (p:=(n,k)) (bB a),<- ih];refine gF ?_;by_cases hc:(k==NameKind.free&&T.scope.kind==.function&&T.kindOf n==some .cell)=true
   ·show(x==(if _ then _ else(n,k)).1)=false;rw[if_pos hc];exact bB a
   ·show(x==(if _ then _ else(n,k)).1)=false;rw[if_neg hc];exact bB a
theorem lA{names:Sc}(h:(around names J).lookup x=some v):names.lookup x=some .free/\J.lookup x=some v:=by
 unfold around at h
 induction J with
 |nil=>exact gB h
 |cons p r ih=>
  rw[cT]at h;by_cases q:x=p.1
  ·by_cases hf:(names.lookup p.1==some .free)=true
   ·rw[if_pos hf]at h;exact⟨q▸beq_iff_eq.mp hf,by rw[q,cN]at h ⊢;exact h⟩
   ·rw[if_neg hf]at h;exact absurd (beq_iff_eq.mpr (q▸(ih h).1)) hf
  ·rw[gF (bB q)];by_cases hf:(names.lookup p.1==some .free)=true
   ·rw[if_pos hf,gF (bB q)]at h;exact ih h
   ·rw[if_neg hf]at h;exact ih h
section
variable {pe:Pe} {n:Nat} {x:V}
theorem Jf(h:ji pe O scope=true):scope.kind=.function/\pe.lam scope.names=none/\(∀p∈scope.names,p.2≠.cell)/\(∀p∈scope.names,p.2=.free->O.lookup p.1=some .cell/\scope.names.lookup p.1=some .free)/\(∀p∈scope.names,p.2=.local->scope.names.lookup p.1=some .local):=by
 unfold ji at h;rw[Bool.and_eq_true,Bool.and_eq_true]at h;obtain⟨⟨h1,c⟩,a⟩:=h;rw[List.all_eq_true]at a;refine⟨of_decide_eq_true h1,Option.isNone_iff_eq_none.mp c,λp hp q=>iC (q▸a p hp:Hf O scope.names p.1 .cell=true),λp hp q=>?_,λp hp q=>beq_iff_eq.mp (q▸a p hp:Hf O scope.names p.1 .local=true)⟩;obtain⟨b,d⟩:=aZ (q▸a p hp:Hf O scope.names p.1 .free=true);exact⟨beq_iff_eq.mp b,beq_iff_eq.mp d⟩
def Hi(h:∀p∈names,p.2≠.cell):(∀k acc,cellsFrom k names acc=acc)/\∀H,pushCells H names=H:=by
 induction names with
 |nil=>exact⟨λU U=>rfl,λU=>rfl⟩
 |cons p r ih=>
  have hp:=λq=>h p (.head _) (beq_iff_eq.mp q);obtain⟨c,a⟩:=ih λq b=>h q (.tail _ b);exact⟨λk acc=>(if_neg hp).trans (c k acc),λH=>(if_neg hp).trans (a H)⟩
theorem Ln(b:∀p∈scope.names,p.2≠.cell)(h:Q {scope,locals:=s.heap.objs.size,globals,cells:=a,qual,func:=none,code:=T.code,frame:=T.frame,builtins:=T.builtins} {s with heap:=s.heap.push {cls:=.type "dict",data:=.dict #[]}}):wpAny M A (newFunctionEnv scope globals a [] qual none .none (some T)) Q E s:=by
 refine aj (wpAny_alloc (aj (wpAny_layCells _ () _ _ _ _ ?_)));dsimp only;refine aj (ak (ak ?_));rw[(Hi b).2,(Hi b).1];exact h
def dJ.WY(S:dJ cx (· ∈ as) W H s ρ' H' s')(c:∀a∈as,s.heap.get? a=none):dJ cx fV W H s ρ' H' s':=
 ⟨S.inv,S.le,S.rY,S.fresh,λb o e d U=>S.ext b o e d λq=>(by rw[c b q]at e;exact gB e),S.gx⟩
theorem qY{m}(S:dJ cx fV W H s ρ' H' s')(hC:s.heap.get? C=none)(ap:∀i,i<H'.n->ρ' i≠C)(j:cx.g.get? C=none)(c:s'.heap.Ns C m)(h:Heap.SameBut C s'.heap h'):dJ cx fV W H s ρ' H' {s' with heap:=h'}/\∀{v y},Rep H'.n ρ' s'.heap v y->Rep H'.n ρ' h' v y:=by
 have T7:dJ cx (· ∈ [C]) ρ' H' s' ρ' H' {s' with heap:=h'}:=dJ.but _ S.inv (by simp) ap j (oG c) h.extBut rfl rfl;refine⟨dJ.WY ((S.weaken λU f=>f.elim).kW T7) (λa d=>by rw[au d];exact hC),λq=>q.mono (T7.kp S.inv λb o e hz w=>?_)⟩;rw[au w]at e;exact oG c o e hz
structure BP (cx:Cx) (newAcc:Sem Value) (em:Em) (ob:Obj):Prop where
 new:∀{A s:_} {Q:Value->Shared->Prop} {E},Q (.ref s.heap.objs.size) {s with heap:=s.heap.push ob}->wpAny cx.M A newAcc Q E s
 cls:ob.cls=.type "list"\/ob.cls=.type "dict"
 nil:∀{n W h D},h.get? D=some ob->gH cx.prog cx.w n W h D (objOf em [])
 live:ob.isFreed=false
def gH.cls(q:gH p w n W h D (objOf em ys)):∀ob,h.get? D=Option.some ob->ob.cls=.type "list"\/ob.cls=.type "dict":=λob e=>by
 cases em with
 |el=>
  obtain⟨vs,k,a,_⟩:=q;rw[e]at a;obtain rfl:=bh a;exact .inl rfl
 |kv=>
  obtain⟨ps,⟨b,es,k,a,hc,_⟩,_⟩:=q;rw[e]at a;obtain rfl:=bh a;exact .inr hc.1
structure Fd (cx:Cx) (n:Nat) (scope:Scope) (J:Loc) (em:Em) (T7:(Nat->Addr)->Heap->Addr->Prop) (A:Around) (T cenv:Env) (W:Nat->Addr) (H:Hp) (s:Shared) (gw:Nat->Addr) (H1:Hp) (s3:Shared) (a D:Addr) (as:List Addr):Prop where
 c:Cn cx n scope.names (around scope.names J) H1 A cenv gw s3
 t:T7 gw s3.heap a
 Oa:Out cx cenv H1.n gw s3.heap a
 OD:Out cx cenv H1.n gw s3.heap D
 ne:a≠D
 rD:gH cx.prog cx.w H1.n gw s3.heap D (objOf em [])
 S:dJ cx fV W H s gw H1 s3
 frame:cenv.frame=T.frame
 new:∀b∈as,s.heap.get? b=none
 has:∀b∈as,∃o,s3.heap.get? b=some o
 wc:∀b,WC scope.names cenv [a,D] b->b∈as
 sy:D≠sysModules
 hD:D∈as
 hC:cenv.locals∈as
 neC:cenv.locals≠D
 low:cx.g.get? cenv.locals=none
 nw:¬ Wr T cenv.locals
structure Wk (cx:Cx) (H1:Hp) (it:V) (T7:(Nat->Addr)->Heap->Addr->Prop):Prop where
 start:∀{A:Around} {E:Value->Shared->Prop} {s:Shared} {W:Nat->Addr} {u:Value} {Q:Value->Shared->Prop},Inv cx W H1 s->Rep H1.n W s.heap u it->(∀a s',s.heap.get? a=none->dJ cx fV W H1 s W H1 s'->T7 W s'.heap a->Q (.ref a) s')->wpAny cx.M A (pyIter u) Q E s
 obj:∀{W h a},T7 W h a->∃o,h.get? a=some o/\¬ Fz o
 grow:∀{W h h' a},T7 W h a->(∀b o,h.get? b=some o->h'.get? b=some o)->T7 W h' a
 self:∀{A:Around} {E:Value->Shared->Prop} {s:Shared} {W:Nat->Addr} {a:Addr} {Q:Value->Shared->Prop},T7 W s.heap a->Q (.ref a) s->wpAny cx.M A (pyIter (.ref a)) Q E s
theorem JB(h:items H1 it=some its):Wk cx H1 it λW h a=>iM H1.n W h a 0 it where
 start:=λI r b=>uG h I r b
 obj:=λt=>by obtain⟨o,_,_,e,_,_,_,hz⟩:=t.obj;exact⟨o,e,hz⟩
 grow:=λt k=>t.mono ⟨bT _,λU U=>rfl,λa o e U=>k a o e⟩ λo e=>k _ o e
 self:=λt b=>Gy t b
def wL(S:dJ cx fV W H s ρ' H' s'){b:Addr}(hb:s'.heap.get? b=none):s.heap.get? b=none:=by
 cases q:s.heap.get? b with
 |none=>rfl
 |some ob=>
  by_cases a:∀i,i<H.n->W i≠b
  exact gB (hb.symm.trans (S.ext _ _ q a (λx=>x)))
  exact absurd (λi hi e=>(jA S.inv hb).2 i (aM hi S.le) ((S.rY i hi).trans e)) a
theorem Eh(P:eY pe cx)(C:qy e em)
      
  (C0:Cn cx (n+1) O J H A T W s) (hok:ji pe O scope=true) (ahR:gA iter=false) (hcl:clausesOf e=⟨target,iter,ifs,0⟩::gens) (N:BP cx newAcc em ob)
  (h1:GE cx n O J iter H it H1) (h2:Wk cx H1 it T7)
  (hQ:∀{cenv gw s3 a D as},Fd cx n scope J em T7 A T cenv W H s gw H1 s3 a D as->codeAny cx.M A (.compLoop e 0 (.ref a) (.ref D) cenv) (compPost cx.M A E use Q (.ref D) cenv.locals) s3) :
  wpAny cx.M A (comprehension e scope T pos newAcc false (eval iter T) use) Q E s:=by
 obtain⟨a1,a2,I,X⟩:=id C0;obtain⟨hk,ahT,hcc,ZP,hloc⟩:=Jf hok;have L:∀p∈scope.names,p.2=.free->T.kindOf p.1=some .cell/\∃c,T.cells.lookup p.1=some c:=λp hp q=>
  have hk':=a2.kind' (ZP p hp q).1 ()
  ⟨hk',X.has _ hk'⟩
 refine wpAny_comprehension_free hcl (lq ahR) (Ek λp hp q=>(L p hp q).2) hk hloc (h1 C0.low λu s1 gw S1 r1=>?_);have X1:=X.step I S1;refine h2.start S1.inv r1 λa s2 ha S2 t2=>N.new ?_;refine Ln hcc ?_;dsimp only;obtain⟨oa,ea,hza⟩:=h2.obj t2;have hD2:s2.heap.get? s2.heap.objs.size=none:=fC _;have fr1:=λ{b}=>wL S2 (b:=b);have frs:=λ{b}=>wL S1 (b:=b);generalize hh3:s2.heap.push ob=f;have hD3:f.get? s2.heap.objs.size=some ob:=by rw[<- hh3];exact bR _ N.live
 have B:f.objs.size=s2.heap.objs.size+1:=by rw[<- hh3,bU]
 have hns:=Heap.Ns.new f (.type "dict");have l:∀b ob,f.get? b=some ob->(f.push {cls:=.type "dict",data:=.dict #[]}).get? b=some ob:=λb ob e=>aq _ e;have j:=λb ob e=>l b ob (by rw[<- hh3];exact aq _ e);generalize f.push {cls:=.type "dict",data:=.dict #[]}=h' at hns l j ⊢;have hC2:s2.heap.get? f.objs.size=none:=by
  cases q:s2.heap.get? f.objs.size with
  |none=>rfl
  |some ob=>exact absurd (aV q) ()
 have hCD:f.objs.size≠s2.heap.objs.size:=by rw[B];exact Nat.ne_of_gt (aN _)
 have S:s2.heap.objs.size<f.objs.size:=by rw[B];exact aN _
 generalize f.objs.size=F at hns hC2 hCD S B ⊢;have S24:dJ cx fV gw H1 s2 gw H1 {s2 with heap:=h'}:=dJ.grown _ S2.inv j rfl rfl;have S14:=S2.trans S24;have ne:∀{x y o},s2.heap.get? x=none->s2.heap.get? y=some o->x≠y:=λh e q=>gB (h.symm.trans (q▸e));have gC:=jA S2.inv hC2;have Z:=fr1 hC2;obtain⟨cenv,g⟩:∃c,c=compEnvC scope (uY T.cells scope.names []) F T:=⟨_,rfl⟩;show codeAny cx.M A (.compStart e 0 (.ref a) _ (compEnvC scope _ F T)) _ _;rw[<- g];have K:cenv.locals=F:=by rw[g];rfl
 have eK:∀y,cenv.kindOf y=(scope.names.lookup y).map λk=>if(k==NameKind.free&&T.scope.kind==.function&&T.kindOf y==some .cell)then NameKind.cell else k:=λy=>by
  rw[g];exact um
 have r:∀y,scope.names.lookup y=some .free->cenv.kindOf y=some .cell/\T.kindOf y=some .cell:=λy e=>by
  have h0:=L _ (mem_of_lookup e) rfl;refine⟨?_,h0.1⟩;rw[eK,e,h0.1,a2.kind];rfl
 have knot:∀y k,k≠.free->scope.names.lookup y=some k->cenv.kindOf y=some k:=λy k hne e=>by
  rw[eK,e,Option.map_some,bB hne];rfl
 have N2:iZ cx cenv scope.names:=by
  refine⟨by rw[g];exact hk,λy k e=>?_,by rw[g];exact a2.globals,by rw[g];exact a2.builtins,by rw[g];exact a2.code,λc P' q e=>gB (ahT.symm.trans ((P.lam _).trans e))⟩;by_cases hf:k=.free
  subst hf;exact .inr ⟨rfl,(r y e).1⟩
  exact .inl (knot y k hf e)
 have eC:cenv.cells=uY T.cells scope.names []:=by rw[g];rfl
 have d:∀y c,cenv.cells.lookup y=some c->T.cells.lookup y=some c:=λy c e=>Bo (cs:=[]) (λp hp q=>(L p hp q).2) (λU q=>gB q) (eC▸e);have t:∀y,scope.names.lookup y=some .free->∃c,cenv.cells.lookup y=some c:=λy e=>eC▸Pn (.inl (mem_of_lookup e))
 have R:∀y,cenv.kindOf y=some .cell->scope.names.lookup y=some .free:=λy e=>by
  cases hl:scope.names.lookup y with
  |none=>rw[eK,hl]at e;exact gB e
  |some k=>
   by_cases hf:k=.free
   rw[hf]
   exact absurd (bh ((knot y k hf hl).symm.trans e)) (hcc _ (mem_of_lookup hl))
 have abB:=λb ob e hm=>S14.ext b ob e hm (λx=>x);have X4:fK cx cenv H1.n gw h' (around scope.names J):=by
  refine⟨⟨_,K▸hns,λy v e k=>absurd (k.symm.trans (r y (lA e).1).1) ()⟩,λy v e k=>?_,λi hi=>K▸gC.2 i hi,λy c e=>X1.Bw y c (d y c e),λy c e=>?_,λy e=>t y (R y e),λy z c e1 e2=>X1.dist y z c (d y c e1) (d z c e2),K▸gC.1⟩
  obtain⟨e1,e2⟩:=lA e;obtain⟨c,u',h1,h2,h3⟩:=X1.cell y v e2 (.inl (r y e1).2);obtain⟨c',hc'⟩:=t y e1
  cases h1.symm.trans (d y c' hc')
  exact⟨c,u',hc',iY h2 λo' e'=>abB _ _ e' (X1.Bw y c h1),S14.rep S1.inv h3⟩
  obtain⟨⟨v,hv⟩,h1,h2⟩:=X1.cells y c (d y c e);obtain⟨o',V,_⟩:=id hv;exact⟨⟨v,iY hv λo'' q=>abB _ _ q (X1.Bw y c (d y c e))⟩,K▸λq=>gB (Z.symm.trans (q▸V)),h2⟩
 have nWr:∀b,s1.heap.get? b=none->b<F->¬ Wr cenv b:=λb hb S w=>w.elim () λ⟨y,w⟩=>by
  obtain⟨⟨v,o',V,_⟩,_⟩:=X1.cells y b (d y b w);exact gB (hb.symm.trans V)
 have ahS:¬ Fz ob:=λhz=>N.cls.elim (λq=>absurd (q▸hz.1) (by decide+kernel)) λq=>absurd (q▸hz.1) (by decide+kernel);have gD:=jA S2.inv hD2;have t4:=h2.grow t2 j;have G:=hQ (cenv:=cenv) (gw:=gw) (s3:={s2 with heap:=h'}) (a:=a) (D:=s2.heap.objs.size) (as:=[F,a,s2.heap.objs.size]) ⟨⟨C0.low.ar,N2,S24.inv,X4⟩,t4,⟨⟨oa,j _ _ ea,hza⟩,(jA S1.inv ha).2,nWr a ha (cA (aV ea) S),(jA S1.inv ha).1⟩,⟨⟨ob,l _ _ hD3,ahS⟩,gD.2,nWr _ (fr1 hD2) S,gD.1⟩,(ne hD2 ea).symm,N.nil (l _ _ hD3),S1.trans S14,by rw[g];rfl,λb hb=>(aA hb).elim (λe=>e▸frs Z) λhb=>(aA hb).elim (λe=>e▸frs ha) λhb=>au hb▸frs (fr1 hD2),
  λb hb=>(aA hb).elim (λe=>by obtain⟨oc,_,_,e',_⟩:=hns;exact⟨oc,e▸e'⟩) λhb=>(aA hb).elim (λe=>⟨_,e▸j _ _ ea⟩) λhb=>⟨_,au hb▸l _ _ hD3⟩,
  λb q=>q.elim (λq=>K▸q) λ⟨y,q,w⟩=>absurd rfl (hcc _ (mem_of_lookup q)),
  S2.inv.Ij,.tail _ (.tail _ (.head _)),K▸.head _,K▸hCD,K▸gC.1,λw=>(K▸w).elim (λw=>by
   obtain⟨m,⟨oL,_,_,hoL,_⟩,_⟩:=X1.ns;exact gB (Z.symm.trans (w▸hoL))) λ⟨y,w⟩=>by
   obtain⟨⟨v,o',V,_⟩,_⟩:=X1.cells y _ w;exact gB (Z.symm.trans V)⟩
 rw[K]at G;exact uX C.toCompE (by rw[hcl];rfl) G (h2.self t4 G)
theorem qW(P:eY pe cx)(C:qy e em)
       
  (B:Cn cx (n+1) O J H A T W s) (q:ji pe O scope=true) (k:gA iter=false) (t:clausesOf e=⟨target,iter,ifs,0⟩::gens) (N:BP cx newAcc em ob)
  (h1:GE cx n O J iter H it H1) (l:Wk cx H1 it T7)
  (h3:∀{cenv gw s3 a D as} {R:Result->Shared->Prop},Fd cx n scope J em T7 A T cenv W H s gw H1 s3 a D as->(∀s' ρ',dJ cx (WC scope.names cenv [a,D]) gw H1 s3 ρ' H2 s'->fK cx cenv H2.n ρ' s'.heap (around scope.names J)->Out cx cenv H2.n ρ' s'.heap D->gH cx.prog cx.w H2.n ρ' s'.heap D (objOf em ys)->R (.ok .next) s')->codeAny cx.M A (.compLoop e 0 (.ref a) (.ref D) cenv) R s3)
  (F:∀s' ρ' D d m,dJ cx fV W H s ρ' (H2.alloc (objOf em ys)) s'->Rep (H2.n+1) ρ' s'.heap (.ref D) (.r H2.n)->s'.heap.Ns d m->(∀i,i<H2.n+1->ρ' i≠d)->s.heap.get? d=none->cx.g.get? d=none->¬ Wr T d->compPost cx.M A E use Q (.ref D) d (.ok .next) s') :
  wpAny cx.M A (comprehension e scope T pos newAcc false (eval iter T) use) Q E s:=by
 refine Eh P C B q k t N h1 l λ{cenv gw s3 a D as} c=>h3 c λp h S5 x y z=>?_;have v:=dJ.WY ((c.S.weaken λU f=>f.elim).j5 (S5.weaken c.wc) λi h1 l w=>by
  have hf:=S5.fresh i h1 l;obtain⟨o,e⟩:=c.has _ w;rw[e]at hf;contradiction) c.new
 obtain⟨K,u,_⟩:=x.ns;refine F p _ D cenv.locals K (v.adopt (c.new _ c.hD) c.sy y.ap y.low z.cls (λU U U e=>e) (z.mono ⟨cF _,λi hi=>if_neg (aY hi),λU U e U=>e⟩ rfl) rfl rfl) gq u (λi hi=>?_) (c.new _ c.hC) c.low c.nw;by_cases b:i=H2.n
 rw[if_pos b];exact Ne.symm c.neC
 rw[if_neg b];exact x.BZ i ()
theorem ql(P:eY pe cx)(C:qy e em)
        
  (o:Cn cx (n+1) O J H A T W s) (k:ji pe O scope=true) (f:gA iter=false) (d:clausesOf e=⟨target,iter,ifs,0⟩::gens) (N:BP cx newAcc em ob)
  (h1:GE cx n O J iter H it H1) (j:items H1 it=some (xs,src)) (hf:(jf target).any (λx=>((around scope.names J).lookup x).isSome)=false) (h3:Ho cx n scope.names em gens target ifs (around scope.names J) src H1 xs H1 ys H2) (hl:ys.length<=lim)
  (v:∀s' ρ' D b m,dJ cx fV W H s ρ' (H2.alloc (objOf em ys)) s'->Rep (H2.n+1) ρ' s'.heap (.ref D) (.r H2.n)->s'.heap.Ns b m->(∀i,i<H2.n+1->ρ' i≠b)->s.heap.get? b=none->cx.g.get? b=none->¬ Wr T b->compPost cx.M A E use Q (.ref D) b (.ok .next) s') :
  wpAny cx.M A (comprehension e scope T pos newAcc false (eval iter T) use) Q E s:=
 qW P C o k f d N h1 (JB j) (λ{cenv gw s3 a D as R} c hR=>h3 hf C () j j List.drop_zero c.c c.t c.Oa c.OD c.ne c.rD () λp h S5 l q u=>hR p h S5 l q u) v
end
def Ku{k:Str}(h:kvs.any (λp=>p.1=k)=false):eO kvs k x=kvs++[(k,x)]:=by
 induction kvs with
 |nil=>rfl
 |cons p r ih=>
  obtain⟨y,u⟩:=p;simp only[List.any_cons,Bool.or_eq_false_iff,decide_eq_false_iff_not]at h;simp only[eO,if_neg h.1,List.cons_append,ih h.2]
theorem Ks{k:Str}(b:(kvs.map (·.1)).Nodup)(h:kvs.any (λp=>p.1=k)=true):eO kvs k x=kvs.map λp=>if p.1=k then(p.1,x)else p:=by
 induction kvs with
 |nil=>lia
 |cons p r ih=>
  obtain⟨y,u⟩:=p;simp only[cC,cB]at b;by_cases a:y=k
  subst a;simp only[eO,if_true,cC,List.cons.injEq,true_and];refine(List.map_id r).symm.trans (cP λp hp=>?_);rw[if_neg (λq=>b.1 (by rw[<- q];exact aJ hp))];rfl
  simp only[List.any_cons]at h;simp only[eO,if_neg a,cC];rw[ih b.2 ()]
def any_keys{ps:List (Str×Value)}{k:Str}(b:ps.map (·.1)=kvs.map (·.1)):ps.any (λp=>p.1=k)=kvs.any (λp=>p.1=k):=by
 have h1:ps.any (λp=>p.1=k)=(ps.map (·.1)).any (λy=>y=k):=by rw[List.any_map];rfl
 have a:kvs.any (λp=>p.1=k)=(kvs.map (·.1)).any (λy=>y=k):=by rw[List.any_map];rfl
 rw[h1,a,b]
theorem j7{k:Str}{v:Value}(q:Rep n W h v x):∀{ps:List (Str×Value)} {kvs:List (Str×V)},(ps.map (·.1)).Nodup->ps.map (·.1)=kvs.map (·.1)->dR n W h (ps.map (·.2)) (kvs.map (·.2)) ->
  (stored ps k v).map (·.1)=(eO kvs k x).map (·.1)/\dR n W h ((stored ps k v).map (·.2)) ((eO kvs k x).map (·.2)):=by
 intro ps kvs hd a r;unfold stored;rw[any_keys a];cases ha:kvs.any _ with
 |false=>
  rw[if_neg (),Ku ha];simp only[aH,a,cC,List.map_nil];exact⟨trivial,r.snoc q⟩
 |true=>
  rw[if_pos rfl,Ks (a▸hd) ha];clear ha hd
  induction ps generalizing kvs with
  |nil=>
   cases kvs with
   |nil=>lia
   |cons b c=>lia
  |cons p ps ih=>
   cases kvs with
   |nil=>lia
   |cons b c=>
    simp at a;cases r with
    |cons r1 e=>
     obtain⟨h1,d⟩:=ih a.2 e;obtain⟨p1,p2⟩:=p;obtain⟨b1,b2⟩:=b;obtain⟨rfl,a⟩:=a;simp only[cC];by_cases hk:p1=k
     simp only[if_pos hk];exact⟨by simp only[List.cons.injEq,true_and];exact h1,.cons q d⟩
     simp only[if_neg hk];exact⟨by simp only[List.cons.injEq,true_and];exact h1,.cons r1 d⟩
def kJ{h:Heap}{ps:List (Str×Value)}(x:h.DictOf (PySem.strKind p w) a ps):(ps.map (·.1)).Nodup:=by
 obtain⟨o,es,ep,ho,hc,hd,hk,hp,b⟩:=x;exact b
section
variable {pe:Pe} {n:Nat} {x:V}
def o9(ys:List V)(k:Str)(v:V):iu (ys++[.t [.s k,v]])=eO (iu ys) k v:=cU ..
def Ja(ys:List V):∀(d:List (Str×V)),(ys.foldl (λd p=>eO d (vJ p).1 (vJ p).2) d).length<=d.length+ys.length:=by
 induction ys with
 |nil=>exact λd=>bT _
 |cons p r ih=>
  intro d;have:=ih (eO d (vJ p).1 (vJ p).2);have a:=(jF d (vJ p).1 (vJ p).2).2.1;rw[List.foldl_cons,aO];lia
def qU(ys:List V):(iu ys).length<=ys.length:=Nat.zero_add ys.length▸Ja ys []
def xW{h:Heap}{o:Obj}(e:h.get? a=some o)(hc:o.cls=.type "list"\/o.cls=.type "dict"):¬ Fz o:=λhz=>by
 rcases hc with q|q <;> (have h:=hz.1;rw[q]at h;exact absurd h ())
def zV(h:(clausesOf e).drop (depth+1)=[]):(clausesOf e)[depth+1]?=none:=drop_nil h
variable {H2:Hp}
theorem Nj(h1:GE cx n O J elt H v H1):Fb cx n O (.el elt) [] J H [v] H1:=λA T W s D e depth q8 Q E kk C hd c i rD hl r=>by
 rw[zV hd];refine aj ?_;refine aj (h1 c λu s1 gw d r1=>?_);have a:=i.step d id;obtain⟨vs,k,ho,q⟩:=gH.j8 c.inv d () id i.ap rD;refine aj (wpAny_list_append_plain ⟨k,ho⟩ (λh' hp p=>ak ?_) (by rw[size_of q];exact aK () hl));obtain⟨t,g⟩:=hp;have h:dJ cx (· = D) gw H1 s1 gw H1 {s1 with heap:=h'}:=dJ.but _ d.inv rfl a.ap a.low a.nf p.extBut rfl rfl;have j:=h.kp d.inv λb o e hz w=>a.nf o (w▸e) hz;refine r _ gw ((d.weaken λU f=>f.elim).kW h.Ig) ((c.vars.step c.inv d).j8 d.inv h (λb w e=>a.nw (e▸w)) (oX a)) ⟨⟨_,g,xW g (.inl rfl)⟩,a.ap,a.nw,a.low⟩ ⟨_,_,g,?_⟩;rw[Array.toList_push];exact(q.mono j).snoc (r1.mono j)
theorem Nk{k x:Expr}(h1:GE cx n O J k H (.s ks) H1)(F:GE cx n O J x H1 v H2):Fb cx n O (.kv k x) [] J H [.t [.s ks,v]] H2:=λA T W s D e depth q8 Q E kk C hd c r rD hl M=>by
 rw[zV hd];refine aj (m:=G5 k x (.ref D) T) ?_;refine aj (h1 c λu s1 gw z r1=>?_);obtain⟨tk,rfl⟩:=r1.dY;refine aj (ao (F (c.step z) λN s2 je j L=>?_));have a:=z.trans j;have g:=r.step a id;obtain⟨ps,hd,B,q⟩:=gH.j8 c.inv a (λU U U U x=>x) id r.ap rD;have hz:ps.length<=sizeLine:=by
  rw[map_len B];exact aK (qU q8) (aK (Nat.le_add_right _ _) hl)
 refine aj (aW (ao (wpAny_dictSet_pairs (jL ks tk) hd (λh' h K=>?_) hz)));have p:dJ cx (· = D) je H2 s2 je H2 {s2 with heap:=h',toks:=s2.toks+1}:=dJ.but _ j.inv rfl g.ap g.low g.nf K.extBut rfl rfl;have y:=p.kp j.inv λb o e hz w=>g.nf o (w▸e) hz;obtain⟨G,I⟩:=j7 (L.mono y) (kJ hd) B (q.mono y);obtain⟨od,_,_,i,l,_⟩:=id h;refine M _ je ((a.weaken λU f=>f.elim).kW p.Ig) ((c.vars.step c.inv a).j8 j.inv p (λb w e=>g.nw (e▸w)) (oX g)) ⟨⟨od,i,xW i (.inr l.1)⟩,g.ap,g.nw,g.low⟩ ?_;show gH _ _ _ _ _ _ (.d _);rw[o9];exact⟨_,h,G,I⟩
theorem BJ:BP cx (newList []) (.el elt) {cls:=.type "list",data:=.seq #[]} where
 new:=wpAny_newObj_type
 cls:=.inl rfl
 nil:=λe=>⟨_,_,e,.nil⟩
 live:=rfl
theorem qu{k v:Expr}:BP cx newDict (.kv k v) {cls:=.type "dict",data:=.dict #[]} where
 new:=wpAny_newObj_type
 cls:=.inr rfl
 nil:=λe=>⟨[],⟨_,#[],0,e,⟨rfl,rfl,rfl⟩,rfl,λe a=>(by simp at a),.nil,.nil⟩,rfl,.nil⟩
 live:=rfl
variable {k y:Expr}
theorem afF(P:eY pe cx)(b:ji pe O scope=true)(a:gA iter=false)(h1:GE cx n O J iter H it H1)(c:items H1 it=some (xs,src))(hf:(jf target).any (λx=>((around scope.names J).lookup x).isSome)=false)(h3:Ho cx n scope.names (.el elt) gens target ifs (around scope.names J) src H1 xs H1 ys H2)(hl:ys.length<=lim)(e:H2.alloc (.l ys)=H'):GE cx (n+1) O J (.ListComp elt (⟨target,iter,ifs,0⟩::gens) scope pos) H (.r H2.n) H'/\GC cx (n+1) O J (.ListComp elt (⟨target,iter,ifs,0⟩::gens) scope pos) H (.r H2.n) H':=by
 subst e;constructor
 intro A T W s Q E C h;exact ql P (G9 _ _ _ _) C b a rfl BJ h1 c hf h3 hl λs' ρ' D i m S q d ap hC f _=>⟨m,d,λh' g=>let z:=qY S hC ap f d g;h _ _ _ z.1 (z.2 q)⟩
 intro A T W s u Q E C h;refine aj (ql P (G9 _ _ _ _) C b a rfl BJ h1 c hf h3 hl λs' ρ' D i m S q d ap hC f nw=>(bG (h _ _ _ i m S q d ap hC f nw) (λU j z=>?_) λU U z=>z));obtain⟨m',h1,c⟩:=z;exact⟨m',h1,λh' g=>ak (c h' g)⟩
theorem afG(P:eY pe cx)(b:ji pe O scope=true)(a:gA iter=false)(h1:GE cx n O J iter H it H1)(c:items H1 it=some (xs,src))(hf:(jf target).any (λx=>((around scope.names J).lookup x).isSome)=false)(h3:Ho cx n scope.names (.kv k y) gens target ifs (around scope.names J) src H1 xs H1 ys H2)(hl:ys.length<=lim)(e:H2.alloc (.d (iu ys))=H'):GE cx (n+1) O J (.DictComp k y (⟨target,iter,ifs,0⟩::gens) scope pos) H (.r H2.n) H'/\GC cx (n+1) O J (.DictComp k y (⟨target,iter,ifs,0⟩::gens) scope pos) H (.r H2.n) H':=by
 subst e;constructor
 intro A T W s Q E C i;exact ql P (qm _ _ _ _ _) C b a rfl qu h1 c hf h3 hl λs' ρ' D j m S q f ap hC g _=>⟨m,f,λh' h=>let z:=qY S hC ap g f h;i _ _ _ z.1 (z.2 q)⟩
 intro A T W s u Q E C i;refine aj (ql P (qm _ _ _ _ _) C b a rfl qu h1 c hf h3 hl λs' ρ' D j m S q f ap hC g nw=>(bG (i _ _ _ j m S q f ap hC g nw) (λU l z=>?_) λU U z=>z));obtain⟨m',h1,c⟩:=z;exact⟨m',h1,λh' h=>ak (c h' h)⟩
end
section
variable {pe:Pe} {n:Nat} {x:V}
def GJ(cx:Cx)(n:Nat)(O:Sc)(J:Loc)(es:List Expr)(out:Str)(H:Hp)(t:Str)(H':Hp):Prop:=
 (out.length<=lim->t.length<=lim)/\∀⦃A T W s⦄ ⦃Q:Str->Shared->Prop⦄ ⦃E⦄,Cn cx n O J H A T W s->(∀s' ρ',dJ cx fV W H s ρ' H' s'->Q t s')->Joins cx.M A E (evalEach es T) out Q s
variable {H2:Hp} {a b:Expr} {es:List Expr} {out:Str}
def afj(h1:GE cx n O J a H (.s y) H1)(hl:y.length<=lim):GE cx (n+1) O J (.FormattedValue a (-1) none pos) H (.s y) H1:=λU U U U U U C c=>by
 refine wpAny_FormattedValue_plain (h1 C.low λw s1 gw b r1=>?_);obtain⟨tk,rfl⟩:=r1.dY;exact wpAny_formatField_str (c _ _ _ b r1) (c _ _ _ (b.trans (dJ.toks _ b.inv)) (.str _ _)) ()
def ad2:GJ cx n O J [] out H out H:=⟨id,λU U U U U U C a=>a _ _ (dJ.refl _ C.inv)⟩
def ZF(h1:GE cx n O J a H (.s y) H1)(hl:out.length+y.length<=lim)(c:GJ cx n O J es (out++y) H1 t H2):GJ cx n O J (a::es) out H t H2:=by
 refine⟨λU=>c.1 (strLen_append .. ▸ hl),λA T W s Q E C e=>(h1 C λu s1 gw b r1=>?_)⟩;obtain⟨tk,rfl⟩:=r1.dY;exact⟨_,_,rfl,by rw[strLen_append];exact hl,c.2 (C.step b) λs2 je d=>e s2 je (b.trans d)⟩
def Oz(h:GJ cx n O J (a::b::es) cJ H t H1):GE cx (n+1) O J (.JoinedStr (a::b::es) pos) H (.s t) H1:=λU U U U U U C d=>
 wpAny_JoinedStr (h.2 C.low λs1 gw c=>⟨o7▸h.1 (),d _ _ _ (c.trans (dJ.toks _ c.inv)) (.str _ _)⟩)
theorem qH{o i:Value}{ty id:String}(g:s.TypeIs o ty)(hl:typeLookup (.type ty) "__getitem__"=pure (some (.builtin id)))(h:wpAny cx.M A (getItem o i) Q E s):wpAny cx.M A (getitemInPython o >>=λb=>subscripted slice b o i >>=λr=>letTemporaryGo value o r >>=λU=>pure r) Q E s:=by
 refine aj (aj (wpAny_specialOf g hl (ak ?_)));have fin:∀vs,wpAny cx.M A (operate vs _) (λr e=>wpAny cx.M A (letTemporaryGo value o r >>=λU=>pure r) Q E e) E s:=λvs=>
  wpAny_operating (bG h (λr e f=>aj (wpAny_letTemporaryGo (ak f))) λU U x=>x)
 refine aj ?_;cases slice with
 |Slice a b c d=>cases c <;> exact fin _
 |_=>exact fin _
theorem u9{k:Int}{y:V}(h:atIdx xs k=some y):-1000000<k/\k<1000000/\∃j,seqIndex? k xs.length=some j/\xs[j]?=some y/\((0<=k/\j=k.toNat)\/(k<0/\-(xs.length:Int)<=k/\j=(k+xs.length).toNat)):=by
 unfold atIdx at h
 split at h
 lia
 rename_i hk;simp at hk
 split at h
 rename_i h0;have a:=(List.getElem?_eq_some_iff.mp h).1;refine⟨hk.1,hk.2,k.toNat,?_,h,.inl ⟨h0,rfl⟩⟩;unfold seqIndex?;have:¬ k<0:=by lia
 simp only[if_neg this];rw[if_pos ()]
 split at h
 refine⟨hk.1,hk.2,(k+xs.length).toNat,?_,by rw[Int.add_comm];exact h,.inr ⟨(),(),rfl⟩⟩;unfold seqIndex?;have:k<0:=by lia
 simp only[if_pos this];rw[if_pos ()]
 lia
def Np{i y:V}(h:Nq o i=some y):(Ex2 λxs k=>o=.l xs/\i=.i k/\atIdx xs k=some y)\/Ex2 λkvs k=>o=.d kvs/\i=.s k/\kvs.lookup k=some y:=by
 cases o with
 |l xs=>cases i with
  |i k=>exact .inl ⟨xs,k,rfl,rfl,h⟩
  |_=>exact gB h
 |d kvs=>cases i with
  |s k=>exact .inr ⟨kvs,k,rfl,rfl,h⟩
  |_=>exact gB h
 |_=>exact gB h
def I4{o i y:V}(h:index H o i=some y):(∃j,o=.r j/\Nq (H.f j) i=some y)\/Ex2 λxs k=>o=.t xs/\i=.i k/\atIdx xs k=some y:=by
 cases o with
 |r j=>exact .inl ⟨j,rfl,h⟩
 |t xs=>cases i with
  |i k=>exact .inr ⟨xs,k,rfl,rfl,h⟩
  |_=>exact gB h
 |_=>exact gB h
theorem Rp(K:iQ cx){o i y:V}{u w:Value}(h:index H o i=some y)(I:Inv cx W H s)(ro:Rep H.n W s.heap u o)(x:Rep H.n W s.heap w i)(z:∀v s',dJ cx fV W H s W H s'->Rep H.n W s'.heap v y->Q v s'):wpAny cx.M A (getitemInPython u >>=λb=>subscripted slice b u w >>=λr=>letTemporaryGo value u r >>=λU=>pure r) Q E s:=by
 rcases I4 h with⟨j,rfl,h1⟩|⟨xs,k,rfl,D,h1⟩
 obtain⟨hi,rfl⟩:=ro.dX;rcases Np h1 with⟨xs,k,hf,rfl,g⟩|⟨kvs,k,hf,rfl,g⟩
 obtain⟨t,rfl⟩:=x.eN;obtain⟨vs,kk,e,q⟩:=I.list hi hf;obtain⟨B,p,j,_,m,hc⟩:=u9 g;obtain⟨v,c,d⟩:=q.get j m;have hz:=size_of q;refine qH ⟨_,e,rfl⟩ list_getitem_lookup ?_;have fin:=z _ _ (dJ.refl _ I) d;rcases hc with⟨h0,f⟩|⟨h0,l,f⟩
 exact wpAny_getItem_list (d8 e) h0 () (f▸bL▸c) fin
 exact wpAny_getItem_list_neg (d8 e) h0 (hz.symm▸l) () (by rw[hz,<- f];exact bL▸c) fin
 obtain⟨t,rfl⟩:=x.dY;obtain⟨ps,hd,C,q⟩:=I.dict hi hf;obtain⟨v,c,d⟩:=(oY C q _).1 _ g;exact qH hd.typeIs F.slot_dict_getitem.lookup (wpAny_getItem_of (jL _ t) hd.mapOf (by rw[j4];exact c) (z _ _ (dJ.toks _ I) d))
 subst D;obtain⟨a,vs,kk,rfl,e,q⟩:=ro.pQ;obtain⟨t,rfl⟩:=x.eN;obtain⟨B,p,j,G,m,_⟩:=u9 h1;obtain⟨v,c,d⟩:=q.get j m;exact qH ⟨_,e,rfl⟩ F.slot_tuple_getitem.lookup (P.getItem_tuple e () () (by rw[size_of q];exact G) (bL▸c) (z _ _ (dJ.refl _ I) d))
def oW:GO cx n O J none H none H:=λU U U U U U C a=>ak (a _ _ _ (dJ.refl _ C.inv) .none)
def xQ{k:Int}(h1:GE cx n O J a H (.i k) H1):GO cx n O J (some a) H (some k) H1:=λA T W s Q E C b=>by
 refine h1 C λu s1 gw c r1=>?_;obtain⟨t,rfl⟩:=r1.eN;exact b _ _ _ c (.int _ _)
def uH{v:Value}(h:IsPart v l):∃lt:Option (Int×Tok),lt.map (·.1)=l/\v=partValue lt:=by
 cases h with
 |none=>exact⟨none,rfl,rfl⟩
 |int i t=>exact⟨some (i,t),rfl,rfl⟩
def afi(P:eY pe cx){o i:Expr}{u w:V}(h1:GE cx n O J o H u H1)(c:GE cx n O J i H1 w H2)(h3:index H2 u w=some x):GE cx (n+1) O J (.Subscript o i pos) H x H2:=λU U U U U U C g=>by
 exact aj (h1 C.low λj s1 gw a r1=>aj (ao (c (C.low.step a) λh s2 je b f=>aj (aW (Rp P.sys h3 b.inv (b.rep a.inv r1) f λv s3 e d=>g v s3 je ((a.trans b).trans e) d)))))
theorem slice_list{o:Addr}{l st:Option Int}{a b vs:Value}(I:Inv cx W H s)(e:s.heap.IsList o ws)(d:s.heap.IsSliceOf sl a b vs)(p2:IsPart a l)(p3:IsPart b hi)(p4:IsPart vs st)(hc:st≠some 0)(hz:xs.length<=lim)(q:dR H.n W s.heap ws.toList xs) (f:∀v s' ρ',dJ cx fV W H s ρ' (H.alloc (.l (jN xs l hi st))) s'->Rep (H.n+1) ρ' s'.heap v (.r H.n)->Q v s'):wpAny cx.M A (getItem (.ref o) (.ref sl)) Q E s:=by
 refine wpAny_getItem_list_slice e d p2 p3 p4 hc (f _ _ _ (dJ.newList I ?_) gq) (by rw[size_of q];exact hz);have c:(slicePick ws l hi st).toList=(sliceRange (sliceBounds l hi st xs.length).1 (sliceBounds l hi st xs.length).2.1 (sliceBounds l hi st xs.length).2.2).filterMap (ws.toList[·]?):=by
  unfold slicePick;rw[size_of q];simp
 rw[c];exact q.pick _
structure W5 (pe:Pe) (H:Hp) (u:V) (l hi st:Option Int) (x:V) (H':Hp):Prop where
 go:∀{cx:Cx} {A:Around} {E:Value->Shared->Prop} {s:Shared} {W:Nat->Addr} {o vl vu vs:Value} {sl:Addr} {value slice:Expr} {Q:Value->Shared->Prop},eY pe cx->Inv cx W H s->Rep H.n W s.heap o u->s.heap.IsSliceOf sl vl vu vs->IsPart vl l->IsPart vu hi->IsPart vs st->(∀v s' ρ',dJ cx fV W H s ρ' H' s'->Rep H'.n ρ' s'.heap v x->Q v s') ->
  wpAny cx.M A (getitemInPython o >>=λb=>subscripted slice b o (.ref sl) >>=λr=>letTemporaryGo value o r >>=λU=>pure r) Q E s
def W5.lst{a:Addr}{lo st:Option Int}(hl:pe.lst a=some is)(hc:st≠some 0)(e:H.alloc (.l (jN (is.map .i) lo hi st))=H'):W5 pe H (.f a) lo hi st (.r H.n) H':=⟨λP I d g p2 p3 p4 go=>by
 subst e;cases d.Du;obtain⟨hlen,ws,h,c⟩:=P.lst hl;have b:=h.at λo e=>I.keep _ o e;exact qH b.typeIs list_getitem_lookup (slice_list I b g p2 p3 p4 hc (by rw[aB];exact aK hlen ()) (c _ _ _) go)⟩
def W5.list{lo st:Option Int}(hf:H.f i=.l xs)(hc:st≠some 0)(hl:xs.length<=lim)(e:H.alloc (.l (jN xs lo hi st))=H'):W5 pe H (.r i) lo hi st (.r H.n) H':=⟨λP I a c p2 p3 p4 go=>by
 subst e;obtain⟨b,rfl⟩:=a.dX;obtain⟨ws,kk,e,q⟩:=I.list b hf;exact qH ⟨_,e,rfl⟩ list_getitem_lookup (slice_list I (d8 e) c p2 p3 p4 hc hl q go)⟩
def W5.str{lo hi:Option Int}(hl:s.length<=lim):W5 pe H (.s s) lo hi none (.s (Txt.slice s lo hi)) H:=⟨λP I a c p2 p3 p4 go=>by
 obtain⟨t,rfl⟩:=a.dY;cases p4;obtain⟨lt,rfl,rfl⟩:=uH p2;obtain⟨b,rfl,rfl⟩:=uH p3;exact qH rfl F.slot_str_getitem.lookup (wpAny_getItem_str_slice (st:=none) c rfl (post_val_or_str ⟨aK (Txt.slice_le _ _ _) (),λd k=>go _ _ _ (dJ.toks _ I) (.str _ _)⟩))⟩
theorem sY(P:eY pe cx){o:Expr}{ps:Pos}{a b c:Option Expr}{l st:Option Int}{u:V}(h1:GE cx n O J o H u H1)(p:GO cx n O J a H1 l H2)(h3:GO cx n O J b H2 hi H3)(q:GO cx n O J c H3 st H4)(z:W5 pe H4 u l hi st x H'):GE cx (n+1) O J (.Subscript o (.Slice a b c ps) pos) H x H':=λA T W s Q E C B=>by
 refine aj (h1 C.low λD s1 gw f r1=>aj (ao (wpAny_Slice (p (C.low.step f) λj s2 je h p2=>h3 ((C.low.step f).step h) λm s3 y k p3=>q (((C.low.step f).step h).step k) λvs g d i p4=>aj (aW ?_)))));have S5:dJ cx fV d H4 g d H4 {g with heap:=g.heap.push {cls:=.type "slice",data:=.fields #[j,m,vs]}}:=dJ.grown _ i.inv (λU U e=>aq _ e) rfl rfl;have w:(g.heap.push {cls:=.type "slice",data:=.fields #[j,m,vs]}).IsSliceOf g.heap.objs.size j m vs:=⟨_,bR _ rfl,rfl,rfl⟩;exact z.go P S5.inv (S5.rep i.inv (((h.trans k).trans i).rep f.inv r1)) w p2 p3 p4 λv s' ρ' S r=>B v s' ρ' (((((f.trans h).trans k).trans i).trans S5).trans S) r
end
section
variable {pe:Pe} {n:Nat} {H2:Hp} {x u w:V} {fl:Fl} {a o i:Expr} {p:Pos}
def dJ.zq(S:dJ cx fV W H s ρ' H' s'):dJ cx W7 W H s ρ' H' s':=S.weaken λU f=>f.elim
def dJ.vp(S:dJ cx (Wr T) W H s gw H1 s1)(a:fK cx T H1.n gw s1.heap eE)(T7:dJ cx (Wr T) gw H1 s1 je H2 s2):dJ cx (Wr T) W H s je H2 s2:=
 S.j5 T7 λi h1 b w=>a.zW T7 i h1 b w
def Lk{t:Option Expr}(h:nY e=false):swapsWith e t line T=pure false:=by
 cases e <;> first|rfl|contradiction
def Jz(hc:nY a=false)(h1:GE cx n O J a H u H1):GX cx (n+1) O (.Expr a pos) J H .next J H1:=λU U U U U U C c=>by
 refine wpAny_Expr_any (h1 C.low λu s1 gw b r1=>c _ _ _ b.zq (C.vars.step C.inv b) .next) ?_ (Lk hc);unfold interactive;rw[C.en.kind];rfl
def Fi(h1:GE cx n O J a H u H1):GX cx (n+1) O (.Return (some a) pos) J H (.ret u) J H1:=λU U U U U U C c=>wpAny_Return_some (h1 C.low λu s1 gw b r1=>c _ _ _ b.zq (C.vars.step C.inv b) (.ret r1))
def W9{y z:List Stmt}{t:Bool}(h1:GT cx n O J a H t H1)(c:vY cx n O (bif t then y else z) J H1 fl dI H2):GX cx (n+1) O (.If a y z pos) J H fl dI H2:=λA T W s Q E C h=>by
 refine wpAny_If (h1 C.low λs1 gw b=>?_);cases t <;> exact(c (C.low.step b) λf s2 je d X2 e=>h _ _ _ (dJ.vp b.zq (C.vars.step C.inv b) d) X2 e)
def VF{d:List ExceptHandler}(h:vY cx n O body J H fl dI H1):GX cx (n+1) O (.Try body (h0::d) [] [] pos) J H fl dI H1:=λU U U U U U C b=>by
 refine wpAny_Try_except (h C.low λf s2 je c X2 a=>?_);have:=b _ _ _ c X2 a;cases a with
 |next=>exact wpAny_execs_nil this
 |_=>lia
theorem abo(P:eY pe cx){id:Str}(ho:own O id=true)(h0:look pe O J id=some old)(f:Bu old=true)(h1:GE cx n O J a H u H1)(e:tB H1 op old u v H2):GX cx (n+1) O (.AugAssign (.Name id p) op a pos) J H .next (eO J id v) H2:=λA T W s Q E C j=>by
 refine wpAny_AugAssign_Name (s_load P h0 C.en C.inv C.vars λu d=>h1 C.low λl s1 gw b r1=>e.aug f b.inv (b.rep C.inv d) r1 λk s2 c i=>?_);have X2:=C.vars.step C.inv (b.trans c);exact xJ (yR.wr O T) ho C.en c.inv X2 i λs3 h U g=>j _ _ _ (dJ.vp (b.trans c).zq X2 h) g .next
theorem wj(P:eY pe cx){y:V}{o u:Value}(h:yq pe H name v=some d)(hp:putN H d name y (H.f d)=some H')(I:Inv cx W H s)(ro:Rep H.n W s.heap o v)(a:Rep H.n W s.heap u y)(b:∀s',dJ cx fV W H s W H' s'->Q Unit.unit s'):wpAny cx.M A (setAttr o name u) Q E s:=by
 cases v with
 |r i=>
  obtain⟨hi,rfl⟩:=ro.dX;have h:Ng pe name (H.f i)=some d:=h;generalize hf:H.f i=o at h;cases o with
  |i C e=>
   obtain⟨m,c,rfl⟩:=map_some h;generalize hd:H.f e=o at hp;cases o with
   |n kvs=>
    obtain⟨hl,rfl⟩:=fU hp;exact HJ P hi hf hd c hl I a b
   |_=>lia
  |_=>lia
 |_=>first|exact gB h|exact iC h|cases h
theorem HF{k:Str}{t:Tok}{y:V}{u:Value}(hi:d<H.n)(hp:putD H d k y (H.f d)=some H')(I:Inv cx W H s)(h:Rep H.n W s.heap u y)(j:∀s',dJ cx fV W H s W H' s'->Q Unit.unit s'):wpAny cx.M A (setItem (.ref (W d)) (.str k t) u) Q E s:=by
 generalize hf:H.f d=o at hp;cases o with
 |d kvs=>
  obtain⟨hl,rfl⟩:=fU hp;obtain⟨ps,hd,c,q⟩:=I.dict hi hf;refine wpAny_setItem_pairs (jL k t) hd (λh' b g=>?_) (by rw[map_len c];exact cj hl);have K:Kp H.n W s.heap H.n W h':=⟨bT _,λU U=>rfl,λa o e hc=>g.extBut a o (λq=>I.m6 e hc d hi q.symm) e⟩;obtain⟨l,i⟩:=j7 (h.mono K) (kJ hd) c (q.mono K);exact j _ (dJ.put _ I hi g ⟨_,b,l,i⟩ rfl rfl)
 |_=>lia
def Ew{t:Expr}(h:iB O H t u J=some dI):GA cx n O t u J H dI H:=λA T W s u Q E C q b=>nF (yR.wr O T) C.ar.handled C.en h C.inv C.vars q λs1 c U a=>b _ _ c a
def aaY(P:eY pe cx)(h1:GE cx n O J o H w H1)(c:yq pe H1 name w=some d)(h3:putN H1 d name u (H1.f d)=some H2):GA cx n O (.Attribute o name p) u J H J H2:=λU U U U U U U C q e=>by
 exact aj (ao (h1 C λo s1 gw a r1=>aj (aW (aj (ao (wj P c h3 a.inv r1 (a.rep C.inv q) λs2 b=>wpAny_release (e _ _ (a.trans b).zq (C.vars.step C.inv (a.trans b)))))))))
theorem afS{k:Str}(h1:GE cx n O J o H (.r d) H1)(e:GE cx n O J i H1 (.s k) H2)(h3:putD H2 d k u (H2.f d)=some H3):GA cx n O (.Subscript o i p) u J H J H3:=λU U U U U U U C q h=>by
 refine aj (ao (h1 C λo s1 gw b r1=>aj (ao (e (C.step b) λi s2 je a g=>aj (aW (aj (ao ?_)))))));obtain⟨t,rfl⟩:=g.dY;obtain⟨hd,rfl⟩:=(a.rep b.inv r1).dX;exact HF hd h3 a.inv ((b.trans a).rep C.inv q) λs3 c=>wpAny_release (h _ _ ((b.trans a).trans c).zq (C.vars.step C.inv ((b.trans a).trans c)))
def iy{t:Expr}(h:isStar t=false):assignEach (t::ts) T=(false,assign t T)::assignEach ts T:=by
 cases t <;> first|rfl|contradiction
def nG{t:Expr}(b:isStar t=false)(h1:GA cx n O t u J H dI H1):VB cx n O [t] u J H dI H1:=λU U U U U U U C q a=>by
 rw[iy b];exact h1 C q a
theorem Vv{t t2:Expr}(f:isStar t=false)(a:isStar t2=false)(h1:GA cx n O t u J H eE H1)(d:VB cx n O (t2::ts) u eE H1 dI H2):VB cx n O (t::t2::ts) u J H dI H2:=λA T W s u Q E C q g=>by
 have go:∀s1 gw,dJ cx _ W H s gw H1 s1->fK cx T H1.n gw s1.heap eE->wpAny cx.M A _ Q E s1:=λs1 gw b c=>
  d (C.to b.inv c) (C.vars.rep C.inv b q) λs2 je e X2=>g _ _ (dJ.vp b c e) X2
 rw[iy a]at go;rw[iy f,iy a];exact aj (ao (h1 C q go))
end
section
variable {pe:Pe} {n:Nat} {H2:Hp} {x u:V} {a:Expr}
def Cw(J:Loc)(ns:List Str)(vs:List V):Loc:=(ns.zip vs).foldl (λl p=>eO l p.1 p.2) J
theorem oF:∀{ws:List V} {J:Loc},ns.Nodup->ns.length=ws.length->((Cw J ns ws).lookup y=some v↔(y,v)∈ns.zip ws\/(y∉ns/\J.lookup y=some v)):=by
 induction ns with
 |nil=>exact λ{ws J} U U=>⟨λh=>.inr ⟨cR,h⟩,λh=>h.elim (λq=>absurd q cR) (·.2)⟩
 |cons a ns ih=>
  intro ws J e hl
  induction ws using List.casesOn with
  |nil=>lia
  |cons w ws=>
   obtain⟨d,c⟩:=List.nodup_cons.mp e;have h:=ih (J:=eO J a w) c (Nat.succ.inj hl);rw[eU]at h;refine Iff.trans h ?_;by_cases b:y=a
   ·subst b;rw[if_pos rfl];refine⟨λh=>h.elim (λh=>.inl (.tail _ h)) λh=>.inl (bh h.2▸.head _),λh=>h.elim (λh=>(aA h).elim (λh=>.inr ⟨d,congrArg (λp=>some p.2) h.symm⟩) .inl) λh=>absurd cQ h.1⟩
   ·rw[if_neg b];exact⟨λh=>h.elim (λh=>.inl (.tail _ h)) λh=>.inr ⟨λq=>(aA q).elim b h.1,h.2⟩,λh=>h.elim (λh=>(aA h).elim (λh=>absurd (congrArg Prod.fst h) b) .inl) λh=>.inr ⟨λq=>h.1 (.tail _ q),h.2⟩⟩
def vU:∀{xs:List V} {J dI:Loc},jl O ts xs J=some dI->dI=Cw J (ts.filterMap isName) xs/\(ts.filterMap isName).length=xs.length/\ts.length=xs.length:=by
 induction ts with
 |nil=>intro xs J dI h;obtain⟨rfl,rfl⟩:=lZ h;exact⟨rfl,rfl,rfl⟩
 |cons t ts ih=>
  intro xs J dI h;obtain⟨id,p,z,zs,rfl,rfl,ho,h⟩:=kY h;obtain⟨h1,a,b⟩:=ih h;refine⟨?_,(congrArg _ a),by simp[b]⟩
  rw[h1];rfl
theorem zY(a2:iZ cx T O):∀{ws:List V} {us:List Value} {J:Loc} {s:Shared} {Q:Unit->Shared->Prop},(∀y∈ns,T.kindOf y=some .local)->ns.length=ws.length->Inv cx W H s->fK cx T H.n W s.heap J->dR H.n W s.heap us ws ->
  (∀s',dJ cx (Wr T) W H s W H s'->fK cx T H.n W s'.heap (Cw J ns ws)->Q Unit.unit s')->wpAny cx.M A (assignInOrder (ns.map λy=>bindName T y) us) Q E s:=by
 induction ns with
 |nil=>
  intro ws us J s Q _ hl I X q b;cases q with
  |nil=>exact ak (b s (dJ.refl _ I) X)
  |cons=>lia
 |cons y ns ih=>
  intro ws us J s Q hk hl I X q b;cases q with
  |nil=>lia
  |cons g f=>
   exact aj (ao (aj (ao (wpAny_point (aj (zJ (.inl rfl) (λc U e=>.inr ⟨y,e⟩) (.inl (hk y cQ)) a2.kind I X g λs1 a U d=>wpAny_point (ih (λz hz=>hk z (List.mem_cons_of_mem _ hz)) (Nat.succ.inj hl) a.inv d (X.zO I a f) λs2 h X2=>b s2 (a.kW h) X2)))))))
def dR.reverse:∀{vs xs},dR n W h vs xs->dR n W h vs.reverse xs.reverse
 :=by
 intro vs
 induction vs with
 |nil=>intro xs h;cases h;exact .nil
 |cons v vs ih=>intro xs h;cases h with
  |cons a b=>simp;exact(ih b).snoc a
def Qx{α c:Type}{l:List α}:∀{m:List c},l.length=m.length->l.reverse.zip m.reverse=(l.zip m).reverse:=by
 induction l with
 |nil=>exact λU=>rfl
 |cons a l ih=>
  intro m h
  induction m using List.casesOn with
  |nil=>lia
  |cons b m=>
   have h:=Nat.succ.inj h;rw[cV,cV,List.zip_append (by rw[cW,cW];exact h),ih h];exact(cV ..).symm
noncomputable def nameIn(T:Env)(line:Nat):Expr->Option Str
 |.Name id pos=>if T.kindOf id==some .local&&pos.line==line then some id else none
 |_=>none
theorem Cj(N:iZ cx T O):∀{ts:List Expr},ts.all (V3 O line)=true->(ts.filterMap (nameIn T line))=ts.filterMap isName/\(ts.filterMap isName).length=ts.length/\∀y∈ts.filterMap isName,T.kindOf y=some .local:=by
 intro ts
 induction ts with
 |nil=>exact λU=>⟨rfl,rfl,λU h=>absurd h cR⟩
 |cons t ts ih=>
  intro h;rw[List.all_cons,Bool.and_eq_true]at h;obtain⟨h1,d,g⟩:=ih h.2;cases t with
  |Name id p=>
   have b:=aZ h.1;have hk:=N.kind' (beq_iff_eq.mp b.1) ();refine⟨?_,congrArg _ d,λy c=>(aA c).elim (λe=>e▸hk) (g y)⟩;exact(List.filterMap_cons_some (f:=nameIn T line) (a:=.Name id p) (if_pos (by rw[hk,b.2];rfl))).trans (congrArg _ h1)
  |_=>first|exact gB h.1|exact iC h.1|cases h.1
theorem zx(N:iZ cx T O){vs:List Expr}{b:Nat}(h:Ck O ts vs=true):swappedStores [.Tuple ts b p] (.Tuple vs c q) T=pure (some (ts.filterMap isName))/\(ts.filterMap isName).Nodup/\(∀y∈ts.filterMap isName,T.kindOf y=some .local):=by
 obtain⟨h,i⟩:=aZ h;obtain⟨h,d⟩:=aZ h;obtain⟨h,j⟩:=aZ h;obtain⟨h,t⟩:=aZ h;obtain⟨h,s⟩:=aZ h;obtain⟨h,k⟩:=aZ h;obtain⟨h1,o⟩:=aZ h;have k:=(cO _).mp k;have d:=(cO _).mp d;have i:=(cO _).mp i;obtain⟨u,n,r⟩:=Cj N s;refine⟨?_,(of_decide_eq_true j),r⟩;have l:(T.blockKind !=.function)=false:=by unfold Env.blockKind;rw[N.kind];rfl
 have m:(vs.length !=ts.length)=false:=by unfold bne;rw[o];rfl
 have a:((ts.filterMap isName).eraseDups.length !=ts.length)=false:=by unfold bne;rw[<- n,t];rfl
 refine(if_neg (by rw[h1,m,l];exact Bool.false_ne_true)).trans ?_;have g:∀f:Expr->Bool,(∀e,f e=isStar e)->vs.any f=false:=λf hf=>(congrArg vs.any (funext hf)).trans k;refine(if_neg (ne_true_of_eq_false (g _ λe=>by
  cases e with
  |UnaryOp op _ _=>cases op <;> rfl
  |_=>rfl))).trans ?_
 show(if(((ts.filterMap (nameIn T _)).length !=ts.length)||((ts.filterMap _).eraseDups.length !=(ts.filterMap _).length))=true then pure none else if vs.all (foldedForSure 8)=true then pure none else if vs.all (constantsAlone 8)=true then _ else pure _)=_;rw[u];exact(if_neg (by rw[n,a,bne_self_eq_false];exact Bool.false_ne_true)).trans ((if_neg (ne_true_of_eq_false d)).trans (if_neg (ne_true_of_eq_false i)))
theorem Xd{vs:List Expr}{b c:Nat}(h:Ck O ts vs=true)(h1:GE cx n O J (.Tuple vs c q) H (.t xs) H1)(j:jl O ts xs J=some dI):GX cx (n+1) O (.Assign [.Tuple ts b p] (.Tuple vs c q) pos) J H .next dI H1:=λA T W s Q E C r=>by
 obtain⟨l,e,hk⟩:=zx C.en h;obtain⟨i,d,v⟩:=vU j;refine aj (aW (aj (bH rfl (aj (h1 C.low λu s1 gw f r1=>(aj (bH l ?_)))))))
 refine aj (wpAny_rule (aj ?_));rw[d];refine vZ C.ar.handled rfl f.inv r1 λus s2 g o=>?_;have X2:=(C.vars.step C.inv f).step f.inv g;refine aj (zY C.en (λy a=>hk y (List.mem_reverse.mp a)) (by rw[cW,cW];exact d) g.inv X2 o.reverse λs3 m k=>ak (r _ _ _ (dJ.vp (f.trans g).zq X2 m) (k.congr λy w a=>?_) .next));rw[i,oF e d]at a;rw[oF (List.pairwise_reverse.mpr (e.imp Ne.symm)) (by rw[cW,cW];exact d),Qx d];exact a.imp List.mem_reverse.mpr λa=>⟨λq=>a.1 (List.mem_reverse.mp q),a.2⟩
def Hu(h:nY a=false):swapsWithSole ts a line T=pure false:=by
 match ts with
 |[]=>rfl
 |[t]=>exact Lk h
 |_::_::_=>rfl
def VG(hc:nY a=false)(d:∀T,swappedStores ts a T=pure none)(h1:GE cx n O J a H u H1)(c:VB cx n O ts u J H1 dI H2):GX cx (n+1) O (.Assign ts a pos) J H .next dI H2:=λA T W s Q E C f=>by
 exact aj (aW (aj (bH (Hu hc) (aj (h1 C.low λu s1 gw b r1=>aj (bH (d T) (aj (c (C.low.step b) r1 λs2 je e X2=>ak (f _ _ _ (dJ.vp b.zq (C.vars.step C.inv b) e) X2 .next)))))))))
def J8:∃b,swapsWithSole [.Name y yp] a line T=pure b:=by
 cases a <;> exact⟨_,rfl⟩
theorem Xe(h1:GE cx n O J a H u H1/\GC cx n O J a H u H1)(l:VB cx n O [.Name y yp] u J H1 dI H2):GX cx (n+1) O (.Assign [.Name y yp] a pos) J H .next dI H2:=λA T W s Q E C t=>by
 obtain⟨b,hb⟩:=J8;refine aj (aW (aj (bH hb ?_)))
 induction b using Bool.casesOn with
 |true=>
  refine aj (h1.2 C.low λx s1 gw Cl m f r1 j ap hC p nw=>?_);refine l (C.low.step f) r1 λs2 je c X2=>?_;have g:=j.at' λo e=>c.ext Cl o e ap nw;obtain⟨h,_,_,d,_⟩:=id j;refine⟨m,g,λh' w=>ak ?_⟩;have r:Out cx T H2.n je s2.heap Cl:=⟨⟨h,c.ext Cl h d ap nw,oG j h d⟩,c.old d ap,nw,p⟩;have T7:dJ cx (· = Cl) je H2 s2 je H2 {s2 with heap:=h'}:=dJ.but _ c.inv rfl r.ap p (oG g) w.extBut rfl rfl;have k:dJ cx (λb=>Wr T b\/b=Cl) W H s je H2 {s2 with heap:=h'}:=((dJ.vp (f.zq) (C.vars.step C.inv f) c).weaken λb q=>.inl q).kW (T7.weaken λb q=>.inr q);exact t _ _ _ (k.O4 hC) (X2.same c.inv T7 r) .next
 |false=>
  exact aj (h1.1 C.low λu s1 gw f r1=>aj (bH rfl (aj (l (C.low.step f) r1 λs2 je c X2=>ak (t _ _ _ (dJ.vp f.zq (C.vars.step C.inv f) c) X2 .next)))))
open Builtin Builtin.List in
theorem U4{E}{s:Shared}{l:Addr}{items:Array Value}{Q:Unit->Shared->Prop}(ho:s.heap.get? l=some {cls:=.type "list",data:=.seq items k})(h:s.heap.IsSliceOf sl .none .none .none)(hsz:items.size<=sizeLine)(i:∀h' j,h'.get? l=some {cls:=.type "list",data:=.seq #[] j}->Heap.SameBut l s.heap h'->Q Unit.unit {s with heap:=h'}):wpAny cx.M A (delItem (.ref l) (.ref sl)) Q E s:=by
 obtain⟨os,c,g,d⟩:=id h;have f:s.TypeIs (.ref sl) "slice":=⟨os,c,g⟩;refine wpAny_delItem_slot ⟨_,ho,rfl⟩ rfl F.slot_list_delitem (wpAny_call_entry F.slot_list_delitem ⟨_,ho,rfl⟩ F.entry_list_delitem ?_ (F.args_list_delitem_2 _ _));show wpAny _ _ (Builtin.List.listSubscript? _ >>=_) _ _ s;refine aj (aj (wpAny_specialOf f slice_no_index ?_));refine ak (aj (wpAny_typeOf f (aj (aj (wpAny_field c d (x:=.none) rfl (aj (wpAny_listPart .none ?_)))))));refine aj (wpAny_field c d (x:=.none) rfl (aj (wpAny_listPart .none ?_)));refine aj (wpAny_field c d (x:=.none) rfl (aj (wpAny_listPart .none (ak (aj (aj (wpAny_seqItems ho rfl (ak ?_))))))));refine aj (bH rfl ?_);refine aj (wpAny_rule (aj ?_));have key:∀(b:Nat->Bool),(∀k,k<items.size->b k=true)->(items.toList.zipIdx.filterMap λx:Value×Nat=>if b x.2=true then none else some x.1).toArray=#[]:=λb e=>by
  have:(items.toList.zipIdx.filterMap λx:Value×Nat=>if b x.2=true then none else some x.1)=[]:=by
   rw[List.filterMap_eq_nil_iff];intro p hp;rw[if_pos (e _ (by simpa using(List.snd_lt_of_mem_zipIdx hp)))]
  rw[this]
 refine wpAny_updateSeq ho rfl (aj (wpAny_letGo (ak ⟨_,rfl,i _ (if(#[]:Array Value).size==items.size then k else k+1) ((bV _ ho rfl).trans ?_) (Heap.SameBut.update ..)⟩))) hsz ?_;refine congrArg (λa:Array Value=>some ({cls:=.type "list",data:=.seq a (if a.size==items.size then k else k+1)}:Obj)) (key _ λk hk=>?_);show(if(1:Int)>0 then decide ((0:Int)<=(k:Int))&&decide ((k:Int)<(items.size:Int))&&((k:Int)-0) % 1==0 else _)=true;simp;lia
 refine aK (Nat.le_of_eq ((congrArg Array.size (key _ λk hk=>?_)).trans rfl)) (bN _);show(if(1:Int)>0 then decide ((0:Int)<=(k:Int))&&decide ((k:Int)<(items.size:Int))&&((k:Int)-0) % 1==0 else _)=true;simp;lia
theorem abn{o:Expr}(h1:GE cx n O J o H (.r i) H1)(hf:H1.f i=.l xs)(hl:xs.length<=lim)(e:H1.put i (.l [])=H2):GX cx (n+1) O (.Delete [.Subscript o (.Slice none none none p) q] pos) J H .next J H2:=λA T W s Q E C j=>by
 subst e;refine wpAny_Delete (wpAny_deleteEach_cons ?_);refine aj (h1 C.low λu s1 gw b r1=>aj (ao (wpAny_Slice (ak (ak (ak (aj (aW (aj (ao (jm r1.dX λhi=>?_)))))))))));have a:dJ cx fV gw H1 s1 gw H1 {s1 with heap:=s1.heap.push {cls:=.type "slice",data:=.fields #[.none,.none,.none]}}:=dJ.grown _ b.inv (λU U e=>aq _ e) rfl rfl;obtain⟨vs,k,e,d⟩:=a.inv.list hi hf;refine U4 e ⟨_,bR _ rfl,rfl,rfl⟩ (by rw[size_of d];exact hl) λh' m h g=>wpAny_release (wpAny_deleteEach_nil ?_);have c:=dJ.nO (s':={s1 with heap:=h'}) a.inv hi g h .nil rfl rfl;exact j _ _ _ ((b.trans a).trans c).zq (C.vars.step C.inv ((b.trans a).trans c)) .next
end
section
variable {G:GP} {s t:Shared}
end
section
variable {s:Shared} {it l:Addr} {items:Array Value}
end
section
variable {G:GP} {s t:Shared}
variable {R:GenEnd} {Y7:Protocol} {n:Nat} {fs:List Frame} {p l:Addr} {items:Array Value}
end
section
variable {G:GP} {s t:Shared} {q:Nat} {p l:Addr}
end
section
variable {G:GP} {s t:Shared} {q:Nat} {p l:Addr} {p1 p6 p7 p8 p9:Pos}
end
section
variable {G:GP} {s t:Shared} {p1 p6 p7 p8 p9:Pos}
end
section
variable {G:GP} {s t:Shared} {a:Addr} {g:Nat}
end
section
variable {G:GP} {s t:Shared} {zj:Nat->Addr} {H'':Hp} {a:Addr} {g n:Nat}
end
section
variable {pe:Pe} {n:Nat} {src:List Nat} {H0 H2:Hp} {x:V} {fl:Fl}
end
section
variable {pe:Pe} {n:Nat} {H2:Hp} {s:Shared}
end
section
variable {pe:Pe} {n:Nat} {H2:Hp} {s:Shared} {fl:Fl}
end
section
variable {pe:Pe} {n:Nat} {H2:Hp} {x:V} {fl:Fl}
end
section
variable {pe:Pe} {n:Nat} {H2 H5:Hp}
theorem Ow(P:eY pe cx){x c v:Str}(j:look pe O J x=some (.s v))(hp:p6.endLine=p9.line)(a:(c==z)=false)(hl:v.length+(v.length+1)*z.length<=lim)(C:Cn cx n O J H A T W s) (h0:s.toks≠0) (h:∀t k,Q (.str (Txt.replace v c z) t) {s with toks:=k}) :
  wpAny cx.M A (eval (.Call (.Attribute (.Name x p5) "replace" p6) [.Constant (.str c) k2 p7,.Constant (.str z) k3 p8] [] p9) T) Q E s:=by
 have f:GL cx 1 O J [.Constant (.str c) k2 p7,.Constant (.str z) k3 p8] H [.s c,.s z] H:=m7 rfl (n7 rfl) (m7 rfl (n7 rfl) wG)
 have go:∀fv:Value,Kpr cx fv {s with toks:=s.toks+1+1}->(∀first,wpAny cx.M A _ Q E {s with toks:=s.toks+1+1}->wpAny cx.M A (callWith p9 fv first (backTo p9 (starEach [.Constant (.str c) k2 p7,.Constant (.str z) k3 p8] T)) (backToKw p9 (keywordEach [] T))) Q E s):=λfv kp first hc=>by
  refine jy (evalArgs_kw2 rfl ?_ rfl);refine Calls.spliced_cons (wpAny_mkText ?_);exact Calls.spliced_cons (wpAny_mkText (Calls.spliced_nil (wpAny_evalAll_nil ⟨kp,hc⟩)))
 refine aj (jJ P j C.en C.inv C.vars λl b=>aj (aW ?_));obtain⟨d,rfl⟩:=b.dY;unfold methodCall;rw[(Oo (f.1 p9 T) (Aq (cx:=cx) (n:=1) (O:=O) (J:=J) (H:=H) |>.1 p9 T).1 (by show 2<=25;decide))];refine aj ?_;show wpAny _ _ (getMethod _ "replace" _) _ _ _
 with_reducible refine DN F.slot_str_replace F.type_str_replace ?_
 rw[CX hp];have i:dJ cx fV W H s W H {s with toks:=s.toks+1+1}:=dJ.toks _ C.inv;exact aj (ak (go _ (Mz P i.inv (.bm (p:=.J4) (.str v d)) rfl) _ (SC.replace h0 () () a hl λt2 k=>h t2 k)))
theorem abm(P:eY pe cx){x c v:Str}(j:look pe O J x=some (.s v))(ho:own O x=true)(hp:p6.endLine=p9.line)(f:(c==z)=false)(hl:v.length+(v.length+1)*z.length<=lim)(e:(bif Txt.contains v c then eO J x (.s (Txt.replace v c z))else J)=dI):GX cx (n+1) O (.If (.Compare (.Constant (.str c) k1 p1) [.In] [.Name x p2] p3) [.Assign [.Name x p4] (.Call (.Attribute (.Name x p5) "replace" p6) [.Constant (.str c) k2 p7,.Constant (.str z) k3 p8] [] p9) Qk] [] p11) J H .next dI H:=λA T W s Q E C d=>by
 subst e;refine wpAny_If (wpAny_isTrue_Compare1 ?_ (xU rfl));refine wpAny_mkText ?_;have g:dJ cx fV W H s W H {s with toks:=s.toks+1}:=dJ.toks _ C.inv;have b:=C.step g;refine jJ P j b.en b.inv b.vars λu o=>?_;obtain⟨t,rfl⟩:=o.dY;refine SB.contains (wpAny_truthy_bool ?_);cases hc:Txt.contains v c with
 |false=>
  rw[hc]at d;exact wpAny_execs_nil (d _ _ _ g.zq b.vars .next)
 |true=>
  rw[hc]at d;have p:VB cx n O [.Name x p4] (.s (Txt.replace v c z)) J H (eO J x (.s (Txt.replace v c z))) H:=nG rfl (Ew (if_pos ho));refine wpAny_execs_cons ?_;refine aj (aW (aj (bH () ?_)));refine aj (Ow P j hp f hl b () λt k=>?_);have i:dJ cx fV W H s W H {s with toks:=k}:=dJ.toks _ C.inv;have h:=C.low.step i;refine aj (bH rfl ?_);exact aj (p h (.str _ _) λq m S5 l=>ak (wpAny_execs_nil (d _ _ _ (dJ.vp i.zq h.vars S5) l .next)))
end
def GEC(cx:Cx)(n:Nat)(O:Sc)(J:Loc)(e:Expr)(H:Hp)(x:V)(H':Hp):Prop:=GE cx n O J e H x H'/\GC cx n O J e H x H'
section
noncomputable def Bf.ve:Bf:=⟨true,"ValueError",by decide+kernel⟩
def W2:List (Str×Bf):=[("len",.len),("sum",.sum),("sorted",.sorted),("set",.set),("list",.list),("dict",.dict),("divmod",.divmod),("chr",.chr),("range",.range),("str",.str),("ValueError",Bf.ve)]
def aiL(x:Str):Option Bf:=W2.lookup x
def boot_all:∀q∈W2,bootBuiltins q.1=some q.2.val/\q.1≠"__name__":=by
 have h:∀{q:Str×Bf} {l:List (Str×Bf)},(bootBuiltins q.1=some q.2.val/\q.1≠"__name__")->(∀r∈l,bootBuiltins r.1=some r.2.val/\r.1≠"__name__")->∀r∈q::l,bootBuiltins r.1=some r.2.val/\r.1≠"__name__":=λh1 b r a=>by
  rcases aA a with rfl|a
  exact h1
  exact b r a
 exact h ⟨by kernel_rfl,()⟩ ()
structure Cfg where
 K:Frag
 C:Addr
 init:Addr
 names:List Str
 lam:Option (Sc×Addr×Addr×Str)
 RZ:Option (Addr×List (Str×Str))
 lst:Addr->Option (List Int)
 sig:Addr->Nat->List Str->List (Str×Src)->Prop
 gen:Addr->Prop
noncomputable def aei:Value->Option V
 |.ref a=>some (.f a)
 |_=>none
def aej(x:Str):Option Value->Option V
 |some u=>aei u
 |none=>(aiL x).map .e
def Cfg.glob(c:Cfg)(x:Str):Option V:=(nsIn c.K mainGlobals x).bind (aej x)
noncomputable def Cfg.lamT(c:Cfg)(O:Sc):Option (Addr×Addr×Str):=match c.lam with
 |some (sc',r)=>if O=sc' then some r else none
 |none=>none
def Cfg.good(c:Cfg)(fd:FuncData):Bool:=
 fd.globals==mainGlobals&&fd.builtins==builtinsNs&&fd.closure.isEmpty&&decide (fd.scope.kind=.function)&&!fd.scope.isGenerator&&!fd.scope.isCoroutine&&codeIn c.K fd.code fd.qualname &&
  (match c.lamT fd.scope.names with
   |some (a,_,q)=>fd.code==.ref a&&fd.qualname++".<locals>."++"<lambda>"==q
   |none=>true)
noncomputable def fnD:Data->Option FuncData
 |.func fd=>some fd
 |_=>none
def Cfg.fn(c:Cfg)(f:Addr):Option FuncData:=(c.K.lookup f).bind λo=>(fnD o.data).bind λfd=>if c.good fd=true then some fd else none
def Oi{d:Data}(h:fnD d=some fd):d=.func fd:=by
 cases d with
 |func a=>exact congrArg Data.func (bh h)
 |_=>exact gB h
noncomputable def aaK(K:Frag)(C:Addr)(name:Str):Option Addr:=match findIn K (.ref C) name with
 |some (some (.ref f))=>some f
 |_=>none
noncomputable def s6(K:Frag)(C:Addr)(name:Str):Bool:=
 findIn K (.ref C) "__getattribute__"==some (some (.builtin "object.__getattribute__"))&&findIn K (.ref C) "__getattr__"==some none&&findIn K (.ref C) "__setattr__"==some (some (.builtin "object.__setattr__")) &&
 (match findIn K (.ref C) name with
  |some none=>true
  |some (some (.ref f))=>typeIn K (.ref f)==some (.type "function")&&specialIn K (.ref f) "__get__"==some (some (.builtin "function.__get__"))&&takesIn K (.ref f)==some false
  |_=>false)&&(clsIn K C).any (·.hasDict)&&plainOver K C&&!copiedNames.contains name
def Cfg.cls(c:Cfg)(C:Addr)(name:Str):Option (Option Addr):=if C=c.C/\name∈c.names then some (aaK c.K C name)else none
def Cfg.pe(c:Cfg):Pe where
 glob:=c.glob
 fn:=c.fn
 sig:=c.sig
 cls:=c.cls
 init:=λC=>if C=c.C then some c.init else none
 lam:=c.lamT
 RZ:=c.RZ.map (·.2)
 lst:=c.lst
 gen:=c.gen
theorem Sh{K:Frag}(X:K.In h)(G:h.Ns mainGlobals mg)(e:nsIn K mainGlobals n=some none):mg n=none:=by
 obtain⟨o,es,ep,ho,hd,_,hf⟩:=G;unfold nsIn at e;cases q:K.lookup mainGlobals with
 |none=>rw[q]at e;exact gB e
 |some f=>
  cases bh (ho.symm.trans (X _ _ q))
  rw[q]at e;obtain⟨c,d,dat,sl⟩:=o;subst hd;have a:es.toList.find? (·.key.isStr n)=none:=by
   cases a:es.toList.find? _ with
   |none=>rfl
   |some b=>
    replace e:(match es.toList.find? _ with
     |some e=>some _
     |none=>if es.toList.any _ then none else some none)=some none:=e
    rw[a]at e;cases e
  rw[<- hf];obtain⟨l⟩:=es;unfold nsFind findBy;rw[List.find?_toArray];exact congrArg _ a
set_option tactic.hygienic true in
theorem Ph(h:s6 cx.K C name=true):Hq cx C name (aaK cx.K C name):=by
 unfold s6 at h;simp only[Bool.and_eq_true,beq_iff_eq,cO]at h;obtain⟨⟨⟨⟨⟨⟨h1,d⟩,j⟩,b⟩,k⟩,i⟩,g⟩:=h;obtain⟨cd,c,a⟩:=any_some k;unfold aaK
 split at b
 rename_i e;exact⟨h1,d,j,by rw[e];rfl,⟨cd,c,a⟩,i,g,λf q=>by rw[e]at q;contradiction⟩
 rename_i f e;simp at b;exact⟨h1,d,j,by rw[e];rfl,⟨cd,c,a⟩,i,g,λl q=>by rw[e]at q;obtain rfl:=bh q;exact⟨b.1.1,b.1.2,b.2⟩⟩
 lia
theorem RT{c:Cfg}(hK:cx.K=c.K)(j:cx.lam=c.lamT)(X:c.K.In cx.g)(G:cx.g.Ns mainGlobals mg)(B:cx.g.Ns builtinsNs mb)(hb:∀x:Str,x≠"__name__"->mb x=bootBuiltins x)(L:cx.g.NoLimit)(I:iQ cx)(r:makesIn c.K c.C=true/\findIn c.K (.ref c.C) "__init__"=some (some (.ref c.init))/\typeIn c.K (.ref c.init)=some (.type "function")) (t:c.names.all (s6 c.K c.C)=true)(k:∀{O a P q},c.lamT O=some (a,P,q)->CodeHd cx.g a P/\∃mg,cx.g.Ns mainGlobals mg/\cx.g.BuiltinsAt mg P/\mainGlobals≠P)(D:∀{a l},c.RZ=some (a,l)->c.glob "list"=some (.e .list)/\nsIn c.K mainGlobals lE=some (some (.ref a))/\∃ps,(a==sysModules)=false/\ps.length<=1000/\cx.g.DictOf (PySem.strKind cx.prog cx.w) a ps/\ps.map (·.1)=l.map (·.1)/\StrsAre (ps.map (·.2)) (l.map (·.2)))(z:∀{a is},c.lst a=some is->is.length<=1000/\∃vs:Array Value,cx.g.IsList a vs/\∀n W h,dR n W h vs.toList (is.map .i))(y:∀{f fd n ks ps},c.fn f=some fd->c.sig f n ks ps->wW cx fd n ks ps) (F:∀{f},c.gen f->∃fd,afY cx f fd):eY c.pe cx where
 glob:=λ{x v} h=>by
  obtain⟨o,e,h⟩:=Option.bind_eq_some_iff.mp h;cases o with
  |some u=>
   cases u with
   |ref a=>
    cases h;exact⟨.ref a,λU U U=>.fn a,λ{A T s Q E} d U hk hQ=>(PySem.Calls.loadGlobal_global (by rw[d];exact G.keeps hk) (mg_of X G e) hQ)⟩
   |_=>exact gB h
  |none=>
   obtain⟨b,M,rfl⟩:=Option.map_eq_some_iff.mp h;obtain⟨h1,p⟩:=(boot_all _ (mem_of_lookup M));exact⟨b.val,λU U U=>.bf b,λ{A T s Q E} d hbu hk hQ=>(PySem.Calls.loadGlobal_builtin (by rw[d];exact G.keeps hk) (Sh X G e) (by rw[hbu];exact B.keeps hk) (by rw[hb _ p];exact h1) hQ)⟩
 noLimit:=L
 sys:=I
 fn:=λ{f fd} h=>by
  obtain⟨o,e,h⟩:=Option.bind_eq_some_iff.mp h;obtain⟨fd',e',h⟩:=Option.bind_eq_some_iff.mp h;obtain⟨d,rfl⟩:=fU h;obtain⟨oc,od,dat,osl⟩:=o
  cases Oi e'
  obtain⟨d,h8⟩:=aZ d;obtain⟨d,Z⟩:=aZ d;obtain⟨d,S⟩:=aZ d;obtain⟨d,R⟩:=aZ d;obtain⟨d,N⟩:=aZ d;obtain⟨d,V⟩:=aZ d;obtain⟨h1,p⟩:=aZ d;refine⟨⟨_,X _ _ e,rfl⟩,beq_iff_eq.mp h1,beq_iff_eq.mp p,List.isEmpty_iff.mp V,of_decide_eq_true N,(cO _).mp R,(cO _).mp S,codeRec_of X Z,λa P q hl=>?_⟩;rw[j]at hl;rw[hl]at h8;obtain⟨h9,H⟩:=aZ h8;exact⟨beq_iff_eq.mp h9,beq_iff_eq.mp H⟩
 kin:=hK▸X
 init:=λ{C g} h=>by
  obtain⟨rfl,rfl⟩:=fU h;exact hK▸r
 cls:=λ{C name m} h=>by
  obtain⟨⟨rfl,hm⟩,rfl⟩:=fU h;have:=List.all_eq_true.mp t name hm;rw[<- hK]at this ⊢;exact Ph this
 lam:=λO=>by rw[j];rfl
 Ws:=λ{O a P q} h=>by rw[j]at h;exact k h
 RZ:=λ{l} h=>by
  obtain⟨⟨a,l'⟩,h',rfl⟩:=Option.map_eq_some_iff.mp h;obtain⟨h1,p,ps,V,N,R,S,Z⟩:=D h';exact⟨h1,a,ps,λ{A T s Q E} d hbu hk hQ=>(PySem.Calls.loadGlobal_global (by rw[d];exact G.keeps hk) (mg_of X G p) hQ),V,N,R,S,Z⟩
 lst:=λ{a is} h=>z h
 sig:=λ{f fd n ks ps} h1 p=>y h1 p
 gen:=λ{f} h=>F h
def Cfg.aem{c:Cfg}(h:c.fn f=some fd):∃o,c.K.lookup f=some o/\o.data=.func fd:=by
 obtain⟨o,e,h⟩:=Option.bind_eq_some_iff.mp h;obtain⟨a,b,h⟩:=Option.bind_eq_some_iff.mp h;obtain⟨_,rfl⟩:=fU h;exact⟨o,e,Oi b⟩
set_option backward.match.sparseCases false in
noncomputable def HX(K:Frag):Sem α->Option α
 |.pure a=>some a
 |.rule _ k=>HX K (k Unit.unit)
 |.at _ k=>HX K (k Unit.unit)
 |.load a _ k=>(K.lookup a).bind λo=>HX K (k o)
 |_=>none
theorem CN{K:Frag}(X:K.In s.heap){d:Ctx}{a:α}{Q:α->Pos->Shared->Prop}{E}(f:∀p,Q a p s):∀(m:Sem α) {p:Pos},HX K m=some a->Sem.wp M d m Q E p s:=by
 intro m
 induction m with
 |pure b=>intro p h;obtain rfl:=bh h;exact f p
 |rule t k ih=>intro p h;exact ih Unit.unit h
 |«at» p' k ih=>intro p h;exact ih Unit.unit h
 |load b c k ih=>
  intro p h;obtain⟨o,e,h⟩:=Option.bind_eq_some_iff.mp h;exact⟨o,X _ _ e,ih o h⟩
 |_=>intro p h;exact gB h
theorem zE{ps:List (Str×Src)}(K:Frag)(X:K.In cx.g)(a:ps.all (λp=>YL (fd.scope.names.lookup p.1))=true)(b:(ps.map (·.1)).Nodup)(h:∀(vs:List Value) (kvs:List (Str×Value)),vs.length=n->kvs.map (·.1)=ks->∃us,HX K (bindArgs fd ⟨vs,kvs⟩)=some ((ps.map (·.1)).zip us)/\vX cx.g vs kvs ps us):wW cx fd n ks ps where
 kinds:=λp hp=>by
  have:=List.all_eq_true.mp a p hp;generalize fd.scope.names.lookup p.1=k at this
  induction k using Option.casesOn with
  |none=>lia
  |some k=>cases k <;> first|exact .inl rfl|exact .inr rfl|cases this
 nodup:=b
 bind:=λ{A s vs kvs Q E} hk hl hkv hQ=>by
  obtain⟨us,h1,c⟩:=h vs kvs hl hkv;exact λd p _=>CN (X.keeps hk) (λU=>hQ us c) _ h1
def gG{ps:List (Str×Src)}(K:Frag)(X:K.In cx.g)(a:ps.all (λp=>YL (fd.scope.names.lookup p.1))=true)(b:(ps.map (·.1)).Nodup)(h:∀vs,vs.length=n->∃us,HX K (bindArgs fd ⟨vs,[]⟩)=some ((ps.map (·.1)).zip us)/\vX cx.g vs [] ps us):wW cx fd n [] ps:=
 zE K X a b λvs kvs hl hk=>by
  cases List.map_eq_nil_iff.mp hk;exact h vs hl
def len1{α:Type}{vs:List α}(h:vs.length=1):∃a,vs=[a]:=by
 induction vs using List.casesOn with
 |nil=>lia
 |cons a vs=>exact⟨a,congrArg _ (List.length_eq_zero_iff.mp (Nat.succ.inj h))⟩
def Af{vs:List α}(h:vs.length=2):Ex2 λa b=>vs=[a,b]:=by
 induction vs using List.casesOn with
 |nil=>lia
 |cons a vs=>obtain⟨b,e⟩:=len1 (Nat.succ.inj h);exact⟨a,b,congrArg _ e⟩
def Ms{vs:List α}(h:vs.length=3):W6 λa b c=>vs=[a,b,c]:=by
 induction vs using List.casesOn with
 |nil=>lia
 |cons a vs=>obtain⟨b,c,e⟩:=Af (Nat.succ.inj h);exact⟨a,b,c,congrArg _ e⟩
def ahF{vs:List α}(h:vs.length=4):VD λa b c d=>vs=[a,b,c,d]:=by
 induction vs using List.casesOn with
 |nil=>exact nomatch h
 |cons a vs=>obtain⟨b,c,d,e⟩:=Ms (Nat.succ.inj h);exact⟨a,b,c,d,congrArg _ e⟩
end
section
variable {frs outer:List Env} {W7':Addr->Prop} {s t:Shared} {n:Nat} {h h0 h1 base:Heap}
variable {M:Model} {cenv:Env} {e a:Addr} {fl:Value} {Q:Unit->Shared->Prop}
end
section
variable {pe:Pe} {n:Nat} {H2:Hp} {st:Stmt}
section
variable {s:Shared}
end
variable {f:Addr} {kws:List (Str×V)} {ps:List (Str×Src)}
end
section
variable {pe:Pe} {n:Nat} {H0 H2:Hp}
variable {x:V}
end
section
variable {s:Shared}
end
section
variable {pe:Pe} {n:Nat} {H2:Hp}
theorem fK.put(I:Inv cx W H s)(X:fK cx T H.n W s.heap J)(b:s'.heap.Ns T.locals m')(d:Heap.SameBut T.locals s.heap s'.heap)(f:s'.os=s.os)(h:s'.gens=s.gens)(l:∀y v,dI.lookup y=some v->T.kindOf y=some .local->∃u,m' y=some u/\Rep H.n W s.heap u v)(hc:∀y v,dI.lookup y=some v->(T.kindOf y=some .cell\/T.kindOf y=some .free)->J.lookup y=some v):dJ cx (Wr T) W H s W H s'/\fK cx T H.n W s'.heap dI:=by
 obtain⟨m,g,_⟩:=X.ns;have S:dJ cx (Wr T) W H s W H s':=dJ.but _ I (.inl rfl) X.BZ X.low (oG g) d.extBut f h;refine⟨S,⟨m',b,λy v e k=>?_⟩,λy v e k=>?_,X.BZ,X.Bw,λy c e=>?_,X.has,X.dist,X.low⟩
 obtain⟨u,h1,a⟩:=l y v e k;exact⟨u,h1,X.rep I S a⟩
 obtain⟨c,i,h1,a,p⟩:=X.cell y v (hc y v e k) k;exact⟨c,i,h1,a.sameBut d (X.cells y c h1).2.1,X.rep I S p⟩
 obtain⟨⟨o,j⟩,h1,a⟩:=X.cells y c e;exact⟨⟨o,j.sameBut d h1⟩,h1,a⟩
theorem Kf{kx:Str}{u:Value}(N:iZ cx T O)(kk:T.kindOf kx=some .local)(I:Inv cx W H s)(X:fK cx T H.n W s.heap J)(r:∀h,Rep H.n W h u v)(l:∀s',dJ cx (Wr T) W H s W H s'->Heap.ExtBut T.locals s.heap s'.heap->s'.os=s.os/\s'.gens=s.gens->fK cx T H.n W s'.heap (eO J kx v)->Q Unit.unit s'):wpAny cx.M A (storeName T kx u) Q E s:=by
 obtain⟨m,c,g⟩:=X.ns;refine wpAny_storeName_local kk c (λj b a=>?_) ((by rw[N.kind];rfl));obtain⟨i,d⟩:=X.put (s':={s with heap:=j,toks:=s.toks+1}) I b a rfl rfl (λy w e k=>by
  rw[eU]at e;by_cases z:y=kx
  rw[if_pos z]at e;cases e
  exact⟨_,if_pos z,r _⟩
  rw[if_neg z]at e;obtain⟨u,o,f⟩:=g y w e k;exact⟨u,(if_neg z).trans o,f⟩) λy w e k=>by
  rw[eU]at e;by_cases z:y=kx
  lia
  lia
 exact l _ i a.extBut ⟨rfl,rfl⟩ d
end
section
variable {s:Shared}
def iH.at(x:iH prog w h a ks)(e:h'.get? a=h.get? a):iH prog w h' a ks:=by
 obtain⟨⟨⟨o,es,k,t,q,hc⟩,d,c,i,g,f,b⟩,l⟩:=x;exact⟨⟨⟨o,es,k,t,e.trans q,hc⟩,d,c,i,g,e.trans f,b⟩,l⟩
theorem QF{S l:Addr}{vs:Array Value}{xs:List Str}(K:A.handled=none)(c:S≠I)(n:S≠l)(y:I≠l)(G:∀(i:Nat) x,xs[i]?=some x->∃t,vs[i]?=some (.str x t))(hz:vs.size=xs.length):∀{i:Nat} {ks:List Str} {s:Shared},xs.drop i=rest->s.heap.IsListIter I l i->s.heap.IsList l vs->iH prog w s.heap S ks->ks.length+rest.length+1<scanBound ->
   (∀h' tk,iH prog w h' S (fH ks rest)->(∀b o,b≠S->b≠I->s.heap.get? b=some o->h'.get? b=some o)->R (.ok (.ret .none)) {s with heap:=h',toks:=tk}) ->
   codeAny (model prog w) A (.builtin "set.update.loop" ⟨[.ref S,.ref I],[]⟩) R s:=by
 induction rest with
 |nil=>
  intro i ks s hd it hl j _ k;refine bJ F.entry_set_update_loop ?_;have D:vs[i]?=none:=by
   have:=drop_nil hd;rw[List.getElem?_eq_none_iff]at this;rw[Array.getElem?_eq_none_iff,hz];exact this
  refine aj (wpAny_pyNext_list_end K it hl D λh' d=>?_);refine ak (k h' s.toks (j.at ?_) λb o U hb e=>d b o hb e);obtain⟨⟨⟨o,_,_,_,q,_⟩,_⟩,_⟩:=j;exact q▸d S o c q
 |cons x rest ih=>
  intro i ks s hd it hl j E k;refine bJ F.entry_set_update_loop ?_;obtain⟨L,r,_⟩:=drop_cons hd;obtain⟨t,H⟩:=G i x L;rw[aO]at E;refine aj (wpAny_pyNext_list_item it hl H λh' z d=>?_);refine aj (ao (pG (j.at (d.2 S c)) () λb C a v=>ak ⟨bI F.plain_set_update_loop _,?_⟩));have u:C.IsListIter I l (i+1):=by obtain⟨o,h1,f⟩:=z;exact⟨o,a.extBut I o (Ne.symm c) h1,f⟩
  have p:C.IsList l vs:=by obtain⟨o,h1,f⟩:=hl;exact⟨o,a.extBut l o (Ne.symm n) (d.extBut l o (Ne.symm y) h1),f⟩
  have hlen:(iG ks x).length<=ks.length+1:=mj ks [x];exact ih r u p v () λf tk B hk=>k f tk B λb o h g e=>hk b o h g (a.extBut b o h (d.extBut b o g e))
set_option maxRecDepth 100000 in
set_option maxHeartbeats 3200000 in
theorem Vl{l:Addr}{items:Array Value}{nl:Nat}{xs:List Str}{Q:Value->Shared->Prop}(u:A.handled=none)(g:s.heap.get? l=some {cls:=.type "list",data:=.seq items nl})(r:∀(i:Nat) x,xs[i]?=some x->∃t,items[i]?=some (.str x t))(hz:items.size=xs.length)(hb:xs.length+1<scanBound)(h:∀(h':Heap) (tk:Nat),iH prog w h' s.heap.objs.size (fH [] xs)->(∀b o,s.heap.get? b=some o->h'.get? b=some o)->Q (.ref s.heap.objs.size) {s with heap:=h',toks:=tk}) :
  wpAny (model prog w) A (call (.type "set") [.ref l]) Q E s:=
 Pu (F.typeCall_set_1 _) (F.newCall_set_1 _) λ{A' s₁} hA e=>by
  subst e;have a:(s.heap.push (oU prog w)).get? s.heap.objs.size=some (oU prog w):=bR _ rfl;have y:Shared.TypeIs {s with heap:=s.heap.push (oU prog w)} (.ref s.heap.objs.size) "set":=⟨_,a,rfl⟩;have v:iH prog w (s.heap.push (oU prog w)) s.heap.objs.size []:=iH.fresh a;have d:(s.heap.push (oU prog w)).get? l=some {cls:=.type "list",data:=.seq items nl}:=aq _ g;have hsz:(s.heap.push (oU prog w)).objs.size=s.heap.objs.size+1:=bU ..;have k:∀b o,s.heap.get? b=some o->(s.heap.push (oU prog w)).get? b=some o:=λb o e=>aq _ e;have f:=aV g;unfold oU at a;generalize s.heap.push (oU prog w)=hp at*;generalize adR prog w=led at a;have p:=F.sub_list_set;have n:=F.sub_list_frozenset;have q:(Value.type "list"==Value.type "dict")=false:=by decide
  have c:hp.IsList l items:=⟨_,d,rfl,nl,rfl⟩;refine codeAny_call_builtin F.called_set.init.plain F.entry_set_init (check_set_init_1 y ?_);unfold Builtin.«set.__init__» noKeywords Builtin.Frozenset.updateFrom;generalize m:pyIter=z
  wp_walk
  subst m;refine wpAny_pyIter_list c ?_;refine aj (wpAny_runValue ?_);refine QF (I:=hp.objs.size) (l:=l) (xs:=xs) (vs:=items) (ks:=[]) (i:=0) (show A'.in1.handled=none from hA.trans u) (by rw[hsz];exact aY (aN _)) (Nat.ne_of_gt f) (by rw[hsz];exact Nat.ne_of_gt (Nat.lt_succ_of_lt f)) r hz List.drop_zero ?_ ?_ ?_ ?_ λh' tk j hk=>?_
  exact⟨_,bR _ rfl,rfl,rfl⟩
  exact c.push _
  exact v.at (aq _ a |>.trans a.symm)
  rw[List.length_nil,Nat.zero_add];exact hb
  show wpAny _ _ _ _ _ _;refine ak ?_;show wpAny _ _ (ret Value.none) _ _ _;refine ak ⟨rfl,h h' tk j λb o e=>hk b o (aY (aV e)) (by rw[hsz];exact aY (Nat.lt_succ_of_lt (aV e))) (aq _ (k b o e))⟩
end
theorem mR.T8(hf:H.f i=.l xs)(hl:strsOf xs=some l)(g:l.length<=100)(e:H.alloc (.e (fH [] l))=H1):mR pe H .set [.r i] (.r H.n) H1:=⟨λ{cx A s W vs Q E} P hh I ra hQ=>by
 subst e;obtain⟨v,rfl,d⟩:=ra.inv1;obtain⟨hi,rfl⟩:=d.dX;obtain⟨vs,k,ho,q⟩:=I.list hi hf;obtain⟨ts,rfl,a⟩:=j6 hl q;have b:∀(i:Nat) x,(ts.map (·.1))[i]?=some x->∃t,vs[i]?=some (.str x t):=λi x e=>by
  rw[bW]at e;obtain⟨p,hp,rfl⟩:=Option.map_eq_some_iff.mp e;exact⟨p.2,by rw[<- bL,a,bW,hp];rfl⟩
 have hz:vs.size=(ts.map (·.1)).length:=by rw[<- bQ,a,aB,aB]
 exact Vl hh ho b hz () λh' tk c hk=>hQ _ _ _ (dJ.new _ I (fC _) I.Ij hk c rfl rfl) gq⟩
section
variable {s:Shared}
def Rd(cx:Cx)(W:Nat->Addr)(H:Hp)(s:Shared)(v:Value)(ys:List V):Prop:=
 ∀{A:Around} {E:Value->Shared->Prop} {R:List Value->Shared->Prop},A.handled=none->(∀vs s1 xs,(∀b o,s.heap.get? b=some o->s1.heap.get? b=some o)->s1.os=s.os->s1.gens=s.gens->dR H.n W s1.heap vs xs->jq xs ys->R vs s1)->wpAny cx.M A (collect v) R E s
theorem Je{v:Value}(y:A.handled=none)(I:Inv cx W H s)(hc:Rd cx W H s v ys)(C:∀v s' ρ',dJ cx fV W H s ρ' (H.alloc (.l ys)) s'->Rep (H.n+1) ρ' s'.heap v (.r H.n)->Q v s'):wpAny cx.M A (call (.builtin "sorted") [v]) Q E s:=by
 refine Calls.call_function_entry kind_sorted plain_sorted entry_sorted (args_sorted1 _) ?_;refine aj (ak (aj (hc y λvs s1 xs k1 ho w q hl=>?_)));have D:=hl.few;have B:=q.length;refine aj (wpAny_newList ?_ (by rw[sizeLine_eq];lia));have d:(s1.heap.push {cls:=.type "list",data:=.seq vs.toArray}).get? s1.heap.objs.size=some (seqObj "list" vs.toArray 0):=bR _ rfl;have u:∀c,(∀b o,s1.heap.get? b=some o->c.get? b=some o)->dR H.n W c vs xs:=λc hk=>q.mono ⟨bT _,λU U=>rfl,λa o e U=>hk a o e⟩;refine aj (ao (wpAny_call_entry slot_list_sort ⟨_,d,rfl⟩ entry_list_sort (xK d (u _ λb o e=>aq _ e) hl λt ws p z i k=>⟨_,rfl,ak ⟨_,rfl,?_⟩⟩) (args_list_sort _)));have fr:∀b o,s1.heap.get? b=some o->b≠s1.heap.objs.size:=λb o e=>aY (aV e);have g:s.heap.get? s1.heap.objs.size=none:=by
  cases e:s.heap.get? s1.heap.objs.size with
  |none=>rfl
  |some o=>exact absurd rfl (fr _ _ (k1 _ _ e))
 have f:=λb o e=>z b o (fr b o e) (aq _ e);refine C _ _ _ (dJ.new _ I g (I.neX k1) (λb o e=>f b o (k1 b o e)) ⟨ws,p,i,?_⟩ ho w) gq;exact(k _ _ _ (u _ f)).mono ⟨cF _,λj x=>if_neg (),λU U e U=>e⟩
theorem dR.of_get:∀{xs:List V},vs.length=xs.length->(∀(j:Nat) v,vs[j]?=some v->∃x,xs[j]?=some x/\Rep n W h v x)->dR n W h vs xs:=by
 induction vs with
 |nil=>exact λ{xs} e U=>by cases List.length_eq_zero_iff.mp e.symm;exact .nil
 |cons v vs ih=>
  intro xs e g;cases xs with
  |nil=>lia
  |cons x xs=>
   obtain⟨y,h1,a⟩:=g 0 v rfl;cases h1;exact .cons a (ih (Nat.succ.inj e) λj v b=>g (j+1) v b)
theorem Rt(hi:i<H.n)(r:iQ cx)(e:H.f i=.d kvs)(hl:jq (kvs.map λp=>.s p.1) ys)(I:Inv cx W H s):Rd cx W H s (.ref (W i)) ys:=λ{A E R} hh hR=>by
 obtain⟨ps,⟨od,zc,dep,c,b,h,u,y,g⟩,l,q⟩:=I.dict hi e;have hz:ps.length=kvs.length:=by have:=congrArg List.length l;simpa using this
 have z:kvs.length<=5:=by have:=hl.few;rwa [aB]at this
 refine kdu_collect (kdl_dict (I.kj r hi)) hh ⟨od,zc,c,b,h,u,y,g⟩ (by rw[sizeLine_eq];lia) λh' tk acc hk a=>hR _ {s with heap:=h',toks:=tk} _ hk rfl rfl (dR.of_get (by rw[bQ,a.1,aB,hz]) λj v t=>?_) hl;obtain⟨k,x,h1,o⟩:=a.2 j v (by rw[<- bL];exact t);obtain⟨tk,rfl⟩:=jx o;have m:(ps.map (·.1))[j]?=some k:=by rw[bW,h1];rfl
 rw[l,bW]at m;obtain⟨p,hp,rfl⟩:=Option.map_eq_some_iff.mp m;exact⟨_,by rw[bW,hp];rfl,.str _ _⟩
end
def mR.DQ(hf:H.f i=.d kvs)(b:jq (kvs.map λp=>.s p.1) ys)(e:H.alloc (.l ys)=H1):mR pe H .sorted [.r i] (.r H.n) H1:=⟨λ{cx A s W vs Q E} P hh I ra hQ=>by
 subst e;obtain⟨v,rfl,a⟩:=ra.inv1;obtain⟨hi,rfl⟩:=a.dX;exact Je hh I (Rt hi P.sys hf b I) hQ⟩
def mR.T6{i:Int}(hi:i.natAbs.log2<1920):mR pe H .str [.i i] (.s (toString i:String)) H:=⟨λ{cx A s W vs Q E} P hh I ra hQ=>by
 obtain⟨v,rfl,a⟩:=ra.inv1;obtain⟨t,rfl⟩:=a.eN;exact PySem.P.str_of_int hi (hQ _ _ _ (dJ.toks _ I) (.str _ _))⟩
section
variable {pe:Pe} {n:Nat} {H2:Hp} {w u old:V} {o a:Expr} {name:Str} {p:Pos} {op:Operator}
theorem Xa(P:eY pe cx)(h1:GE cx n O J o H w H1)(q:fld pe H1 name w=some old)(h:Bu old=true)(h3:GE cx n O J a H1 u H2)(l:tB H2 op old u v H2)(m:yq pe H2 name w=some d)(r:putN H2 d name v (H2.f d)=some H3):GX cx (n+1) O (.AugAssign (.Attribute o name p) op a pos) J H .next J H3:=λA T W s Q E C t=>by
 refine wpAny_AugAssign_AttributeAny (h1 C.low λz s1 gw e r1=>wz P q e.inv r1 λF s2 b x=>h3 ((C.low.step e).step b) λG s3 i c k=>l.aug h c.inv (c.rep b.inv x) k λB y g j=>wj P m r g.inv (g.rep c.inv (c.rep b.inv (b.rep e.inv r1))) j λD S5=>?_);have S:=(((e.trans b).trans c).trans g).trans S5;exact t _ _ _ S.zq (C.vars.step C.inv S) .next
end
section
variable {pe:Pe} {n:Nat}
def oE:entryFor table "dict_itemiterator.__iter__"=some Builtin.«dict_keyiterator.__iter__»:=
 entryFor_alias (id':="dict_keyiterator.__iter__") rfl rfl (by decide+kernel) rfl
theorem rU{it d:Addr}(a:IsItemIter s.heap it d i n ep ok c)(h:Q (.ref it) s):wpAny (model prog w) A (pyIter (.ref it)) Q E s:=by
 have b:s.TypeIs (.ref it) "dict_itemiterator":=⟨_,a,rfl⟩;exact wpAny_pyIter_slot b F.slot_dict_itemiterator_iter (wpAny_call_entry F.slot_dict_itemiterator_iter b oE (ak ⟨_,rfl,"dict_itemiterator",_,b,F.slot_dict_itemiterator_next.lookup,h⟩) (F.args_dict_itemiterator_iter_1 _))
inductive aaZ (cx:Cx) (i:Nat) (kvs:List (Str×Str)) (k:Nat) (W:Nat->Addr) (h:Heap) (a:Addr):Prop
 |mk (ps:List (Str×Value)) (ep:Nat) (ok ov:Value) (it:IsItemIter h a (W i) k ps.length ep ok ov) (d:h.DictAt (PySem.strKind cx.prog cx.w) (W i) ps ep) (hl:ps.length=kvs.length)
  (hv:∀(j:Nat) p,ps[j]?=some p->Ex2 λq t=>kvs[j]?=some q/\p.1=q.1/\p.2=.str q.2 t)
noncomputable abbrev fG(kvs:List (Str×Str)):dN:=.d (kvs.map λq=>(q.1,.s q.2))
theorem Fj{kvs:List (Str×Str)}(hf:H.f i=fG kvs):Wk cx H (.w i) (λW h a=>i<H.n/\aaZ cx i kvs 0 W h a) where
 start:=λ{A E s W u Q} I r g=>by
  obtain⟨hi,a,rfl,D⟩:=r.uI;obtain⟨ps,hd,v,q⟩:=I.dict hi hf;obtain⟨ep,m⟩:=hd.dictAt;refine wpAny_pyIter_items ⟨_,D,rfl,rfl⟩ m (g _ _ (fC _) (dJ.grown _ I (λU U e=>aq _ e) rfl rfl) ⟨hi,ps,ep,.none,.none,bR _ rfl,m.keep λU U e=>aq _ e,?_,λj p l=>?_⟩)
  have:=congrArg List.length v
  rwa [aB,aB,aB]at this
  have h1:(ps.map (·.1))[j]?=some p.1:=by rw[bW,l];rfl
  obtain⟨y,b,C⟩:=q.get' j (by rw[bW,l];rfl);rw[v,aR,bW]at h1;rw[aR,bW]at b;obtain⟨x,o,F⟩:=Option.map_eq_some_iff.mp h1;obtain rfl:=bh (o▸b);obtain⟨t,B⟩:=C.dY;exact⟨x,t,o,F.symm,B⟩
 obj:=λT7=>by obtain⟨_,_,_,_,_,it,_,_,_⟩:=T7;exact⟨_,it,lU it (c:=.type "dict_itemiterator") rfl rfl _ it⟩
 grow:=λT7 k=>by obtain⟨hi,ps,ep,ok,G,it,d,hl,z⟩:=T7;exact⟨hi,ps,ep,ok,G,k _ _ it,d.keep k,hl,z⟩
 self:=λT7 g=>by obtain⟨_,_,_,_,_,it,_,_,_⟩:=T7;exact rU it g
def GTp(cx:Cx)(n:Nat)(O:Sc)(J:Loc)(e:Expr)(H:Hp)(b:Bool):Prop:=
 ∀⦃A T W s⦄ ⦃Q:Bool->Shared->Prop⦄ ⦃E⦄,Cn cx n O J H A T W s->(∀k,Q b {s with toks:=k})->wpAny cx.M A (isTrue e T (eval e T)) Q E s
theorem TG(P:eY pe cx){kx sx name x:Str}{C t:Nat}{m:Option Addr}(h1:look pe O J kx=some (.s x))(q:look pe O J sx=some (.r j))(w:H.f j=.i C d)(hd:H.f d=.n kvs)(hc:pe.cls C name=some m)(y:kvs.lookup name=some (.r t))(z:H.f t=.e ks):GTp cx (n+1) O J (.Compare (.Name kx p1) [.NotIn] [.Attribute (.Name sx p2) name p3] p4) H (!ks.contains x):=λA T W s Q E C v=>by
 refine wpAny_isTrue_Compare1 (jJ P h1 C.en C.inv C.vars λu r1=>?_) ();obtain⟨tk,rfl⟩:=r1.dY;refine aj (jJ P q C.en C.inv C.vars λo D=>?_);refine jm D.dX λhi=>(C.inv.inst hi w).elim λg h=>?_;obtain⟨es,k,a,hk,_,F,G⟩:=C.inv.ns g hd;have c:=P.cls hc;have X:=P.kin.keeps C.inv.keep;obtain⟨u,B,p⟩:=F _ _ y;obtain⟨b,rfl⟩:=p.dX;have l:=C.inv.objs _ b;rw[z]at l;refine aj (aW (aj (ao (get_value X (nZ h a) c.hga (oM c hk B) () (aj (wpAny_letTemporaryGo (ak ?_)))))));exact wpAny_notInSet_of (jL x tk) rfl l.1.set (wpAny_truthy_bool (v _))
def uo(hk:O.lookup x=some .local)(hd:x≠"__debug__"/\x≠"__classdict__"):look pe O J x=J.lookup x:=by
 unfold look;rw[if_neg (λz=>z.elim hd.1 hd.2),hk];rfl
def Ht(h:wpAny cx.M A (isTrue test T (eval test T)) Q E s):wpAny cx.M A (forIn [test] true λc r=>if r=true then do let ok <- isTrue c T (eval c T);pure (ForInStep.yield ok)else pure (ForInStep.yield r)) Q E s:=aj (aj (bG h (λb s' q=>ak (ak q)) λU U x=>x))
theorem PJ{kx x w:Str}{b tup:Nat}(hk:O.lookup kx=some .local)(k:O.lookup vx=some .local)(p:A.handled=none)(en:iZ cx T O)(I:Inv cx W H s)(X:fK cx T H.n W s.heap J)(l:s.heap.IsTuple tup #[.str x tk,.str w d])(t:∀a,Heap.ExtBut T.locals s.heap a.heap->a.os=s.os->a.gens=s.gens->fK cx T H.n W a.heap (eO (eO J kx (.s x)) vx (.s w))->Q Unit.unit a):wpAny cx.M A (assign (.Tuple [.Name kx p3,.Name vx p4] b p5) T (.ref tup)) Q E s:=by
 refine aj (aW ?_);refine aj (ao (wpAny_unpackItems_tuple (items:=#[.str x tk,.str w d]) p l λu c=>?_));have k3:=λb o e=>c b o (aY (aV e)) e;have f:dJ cx fV W H s W H {s with heap:=u}:=dJ.grown _ I k3 rfl rfl;exact aj (ao (wpAny_assign_Name (Kf en (en.kind' hk ()) f.inv (X.step I f) (λU=>.str _ _) λv q r g m=>(aj (ao (wpAny_assign_Name (Kf en (en.kind' k ()) q.inv m (λU=>.str _ _) λa S5 j h i=>ak (t a (λb o hb e=>j b o hb (r b o hb (k3 b o e))) () () i))))))))
theorem Qz(P:eY pe cx){kvs:List (Str×Str)}{kx:Str}{b:Nat}(C:qy e (.kv (.Name kx p1) (.Name vx p2)))(hcl:clausesOf e=[⟨.Tuple [.Name kx p3,.Name vx p4] b p5,iter,[test],0⟩])(hk:O.lookup kx=some .local) (hv:O.lookup vx=some .local) (u:kx≠vx) (hkd:kx≠"__debug__"/\kx≠"__classdict__") (hvd:vx≠"__debug__"/\vx≠"__classdict__") (hl1:J.lookup kx=none) (hl2:J.lookup vx=none){keep:Str->Bool} (ht:∀x w,GTp cx n O (eO (eO J kx (.s x)) vx (.s w)) test H (keep x)) (hi:i<H.n)       :∀{k:Nat} {s:Shared} {q8:List V},kvs.drop k=rest->Cn cx n O J H A T W s->aaZ cx i kvs k W s.heap a->Out cx T H.n W s.heap a->Out cx T H.n W s.heap D->a≠D->gH cx.prog cx.w H.n W s.heap D (objOf (.kv (.Name kx p1) (.Name vx p2)) q8)->q8.length+rest.length<=lim ->
   (∀s',dJ cx (WC O T [a,D]) W H s W H s'->fK cx T H.n W s'.heap J->Out cx T H.n W s'.heap D->gH cx.prog cx.w H.n W s'.heap D (objOf (.kv (.Name kx p1) (.Name vx p2)) (q8++(rest.filter λq=>keep q.1).map λq=>.t [.s q.1,.s q.2]))->R (.ok .next) s')->codeAny cx.M A (.compLoop e 0 (.ref a) (.ref D) T) R s:=by
 have hg0:(clausesOf e)[0]?=some ⟨.Tuple [.Name kx p3,.Name vx p4] b p5,iter,[test],0⟩:=by rw[hcl];rfl
 have hg1:(clausesOf e)[0+1]?=none:=by rw[hcl];rfl
 induction rest with
 |nil=>
  intro k s q8 hz c t f OD u rD hl hR;refine bK ?_;rw[C.U3 _ _ _ _ _ _ _ rfl,C.Xk,C.turn hg0];refine wpAny_noted ?_;obtain⟨ps,ep,ok,ov,it,d,r,_⟩:=t;have hx:ps[k]?=none:=by
   have:=drop_nil hz;rw[List.getElem?_eq_none_iff]at this ⊢;rw[r];exact this
  refine aj (aW (aj (wpAny_pyNext_items_end c.ar.handled it d hx λh' hs=>ak ?_)));have j:dJ cx (· = a) W H s W H {s with heap:=h'}:=dJ.but _ c.inv rfl f.ap f.low f.nf hs rfl rfl;exact hR _ j.Ig (c.vars.same c.inv j f) (OD.step j λq=>u q.symm) (by rw[List.filter_nil,List.map_nil,aX];exact gH.j8 c.inv j (oX f) (λq=>u q.symm) OD.ap rD)
 |cons q rest ih=>
  intro k s q8 hz c t f OD l rD hl hR;obtain⟨hx,hz',_⟩:=drop_cons hz;rw[aO]at hl;refine bK ?_;rw[C.U3 _ _ _ _ _ _ _ rfl,C.Xk,C.turn hg0];refine wpAny_noted ?_;obtain⟨ps,ep,ok,ov,it,d,r,I⟩:=t;have hkl:k<ps.length:=by
   rw[r];exact(List.getElem?_eq_some_iff.mp hx).1
  obtain⟨q',tv,hq',e1,e2⟩:=I k ps[k] (bk hkl)
  cases hx.symm.trans hq'
  have hpk:ps[k]?=some (q.1,.str q.2 tv):=by rw[bk hkl,<- e1,<- e2]
  refine aj (aW (aj (wpAny_pyNext_items_item it d hpk λkey h1 Q it1 S U k1=>?_)));obtain⟨tk,rfl⟩:=jx Q;have has:=aV it;refine aj (wpAny_letOwnedTupleGo_items it1 λh2 B hs2=>?_);have x2:=λb o hb e=>hs2.extBut b o hb (k1 b o hb e);have j:dJ cx (· = a) W H s W H {s with heap:=h2}:=dJ.but _ c.inv rfl f.ap f.low f.nf x2 rfl rfl;have X2:=c.vars.same c.inv j f;have E:=OD.step j λq=>l q.symm;have rD2:=gH.j8 c.inv j (oX f) (λq=>l q.symm) OD.ap rD;have O2:Out cx T H.n W h2 a:=⟨⟨_,B,lU B (c:=.type "dict_itemiterator") rfl (by decide+kernel) _ B⟩,f.ap,f.nw,f.low⟩;have Z:=hs2.extBut _ _ (Nat.ne_of_gt has) S;have d2:=d.extBut x2 (f.ap i hi);refine aj (PJ hk hv c.ar.handled c.en j.inv X2 (kI Z) λs5 x5 o5 g5 X=>?_);have nL:∀{b},Out cx T H.n W h2 b->b≠T.locals:=λf z=>f.nw (.inl z);have T7:dJ cx (· = T.locals) W H {s with heap:=h2} W H s5:=dJ.but _ j.inv rfl X2.BZ X2.low (by obtain⟨m,hn,_⟩:=X2.ns;exact oG hn) x5 o5 g5;have L:dJ cx (WC O T [a,D]) W H s W H s5:=j.Ig.kW (T7.weaken λb z=>.inl (by rw[z];exact .head _));have p:=x5 _ _ (nL O2) B;have d5:=d2.extBut x5 (X2.BZ i hi);have O5:Out cx T H.n W s5.heap a:=⟨⟨_,p,lU p (c:=.type "dict_itemiterator") rfl (by decide+kernel) _ p⟩,f.ap,f.nw,f.low⟩;have g:Out cx T H.n W s5.heap D:=E.step T7 (nL E)
  have rD5:=gH.j8 j.inv T7 (λb ob e hz z=>by
   obtain⟨m,hn,_⟩:=X2.ns;exact oG hn ob (z▸e) hz) (nL E) E.ap rD2
  have up:∀y v,J.lookup y=some v->(eO (eO J kx (.s q.1)) vx (.s q.2)).lookup y=some v:=λy v e=>by
   rw[eU,if_neg (λz=>by rw[z,hl2]at e;contradiction),eU,if_neg (λz=>by rw[z,hl1]at e;contradiction)];exact e
  refine aj (Ht (ht q.1 q.2 (c.to L.inv X) λk5=>?_));have h:dJ cx (WC O T [a,D]) W H s W H {s5 with toks:=k5}:=L.kW (dJ.toks (k:=k5) _ L.inv);refine VH (m':=bif keep q.1 then nextOf ((clausesOf e)[0+1]?) (yF (.kv (.Name kx p1) (.Name vx p2)) (.ref D) T) e 0 (.ref D) T (again (.compLoop e 0 (.ref a) (.ref D) T))else again (.compLoop e 0 (.ref a) (.ref D) T)) ?_ ?_
  cases keep q.1
  rfl
  cases(clausesOf e)[0+1]? <;> rfl
  cases hkq:keep q.1 with
  |false=>
   refine ak ⟨rfl,ih hz' (c.to h.inv (X.congr up)) ⟨ps,ep,_,_,p,d5,r,I⟩ O5 g l rD5 () λs' S7 X7 N r7=>hR s' (h.kW S7) X7 N ?_⟩;rw[cT,hkq];exact r7
  |true=>
   rw[hg1];refine aj (m:=G5 (.Name kx p1) (.Name vx p2) (.ref D) T) ?_;have e1:look pe O (eO (eO J kx (.s q.1)) vx (.s q.2)) kx=some (.s q.1):=by
    rw[uo hk hkd,eU,if_neg u,eU,if_pos rfl]
   have e2:look pe O (eO (eO J kx (.s q.1)) vx (.s q.2)) vx=some (.s q.2):=by
    rw[uo hv hvd,eU,if_pos rfl]
   refine aj (jJ P e1 c.en h.inv X λu1 r1=>?_);obtain⟨t1,rfl⟩:=r1.dY;refine aj (ao (jJ P e2 c.en h.inv X λu2 r2=>?_));obtain⟨pd,hdD,G,qD⟩:=rD5;have hz2:pd.length<=sizeLine:=by
    rw[map_len G,<- o7];exact aK (qU q8) ()
   refine aj (aW (ao (wpAny_dictSet_pairs (s:={s5 with toks:=k5}) (k:=q.1) (jL q.1 t1) hdD (λh6 hd6 K=>?_) hz2)));have S6:dJ cx (· = D) W H {s5 with toks:=k5} W H {s5 with heap:=h6,toks:=k5+1}:=dJ.but _ h.inv rfl g.ap g.low g.nf K.extBut rfl rfl;have K6:=S6.kp h.inv λb o e hz w=>g.nf o (w▸e) hz;obtain⟨g1,g2⟩:=j7 (k:=q.1) (r2.mono K6) (kJ hdD) G (qD.mono K6);obtain⟨od,_,_,hod,hex,_⟩:=id hd6;have X6:=X.j8 h.inv S6 (λb w e=>g.nw (e▸w)) (oX g);have F:=K.extBut _ _ l p;have d6:h6.DictAt (PySem.strKind cx.prog cx.w) (W i) ps ep:=d5.extBut K.extBut (g.ap i hi);have S16:=h.kW (S6.weaken λb z=>(.inl (by rw[z];exact .tail _ (.tail _ (.head _))):WC O T [a,D] b));refine ak ⟨rfl,ih hz' (q8:=q8++[.t [.s q.1,.s q.2]]) (c.to S16.inv (X6.congr up)) ⟨ps,ep,_,_,F,d6,r,I⟩ ⟨⟨_,F,lU F (c:=.type "dict_itemiterator") rfl (by decide+kernel) _ F⟩,f.ap,f.nw,f.low⟩ ⟨⟨od,hod,xW hod (.inr hex.1)⟩,g.ap,g.nw,g.low⟩ l ?_ (by rw[aC,List.length_singleton];lia) λs' S7 X7 N r7=>hR s' (S16.kW S7) X7 N ?_⟩
   show gH _ _ _ _ _ _ (.d (iu (q8++[.t [.s q.1,.s q.2]])));rw[o9];exact⟨_,hd6,g1,g2⟩
   rw[cT,hkq];rw[aQ]at r7;exact r7
end
section
variable {pe:Pe} {n:Nat}
noncomputable def vwL(keep:Str->Bool)(kvs:List (Str×Str)):List V:=(kvs.filter λq=>keep q.1).map λq=>.t [.s q.1,.s q.2]
theorem aiK(P:eY pe cx){kvs:List (Str×Str)}{kx:Str}{b:Nat}(j:ji pe O scope=true)(g:gA iter=false)(h1:GE cx n O J iter H (.w i) H1)(hf:H1.f i=fG kvs)(hk:scope.names.lookup kx=some .local) (K:scope.names.lookup vx=some .local) (o:kx≠vx) (G:kx≠"__debug__"/\kx≠"__classdict__") (y:vx≠"__debug__"/\vx≠"__classdict__")(ht:∀x w,GTp cx n scope.names (eO (eO (around scope.names J) kx (.s x)) vx (.s w)) test H1 (keep x)) (hl:kvs.length<=lim) (e:H1.alloc (.d (iu (vwL keep kvs)))=H'):GE cx (n+1) O J (.DictComp (.Name kx p1) (.Name vx p2) [⟨.Tuple [.Name kx p3,.Name vx p4] b p5,iter,[test],0⟩] scope pos) H (.r H1.n) H'/\GC cx (n+1) O J (.DictComp (.Name kx p1) (.Name vx p2) [⟨.Tuple [.Name kx p3,.Name vx p4] b p5,iter,[test],0⟩] scope pos) H (.r H1.n) H':=by
 subst e;have no:∀{x},scope.names.lookup x=some .local->(around scope.names J).lookup x=none:=λ{x} h=>by
  cases q:(around scope.names J).lookup x with
  |none=>rfl
  |some v=>
   have:=(lA q).1;rw[h]at this;contradiction
 have run:∀{A:Around} {T cenv:Env} {W gw:Nat->Addr} {s s3:Shared} {a D:Addr} {as:List Addr} {R:Result->Shared->Prop},Fd cx n scope J _ (λW h a=>i<H1.n/\aaZ cx i kvs 0 W h a) A T cenv W H s gw H1 s3 a D as ->
   (∀s' ρ',dJ cx _ gw H1 s3 ρ' H1 s'->fK cx cenv H1.n ρ' s'.heap (around scope.names J)->Out cx cenv H1.n ρ' s'.heap D->gH cx.prog cx.w H1.n ρ' s'.heap D (objOf _ (vwL keep kvs))->R _ s') ->
   codeAny cx.M A (.compLoop (.DictComp (.Name kx p1) (.Name vx p2) [⟨.Tuple [.Name kx p3,.Name vx p4] b p5,iter,[test],0⟩] scope pos) 0 _ _ cenv) R s3:=λc V=>
  Qz P (qm _ _ _ _ _) rfl hk K o G y (no hk) (no K) ht c.t.1 List.drop_zero c.c c.t.2 c.Oa c.OD c.ne c.rD () λs' S X N r=>V s' _ S X N r
 constructor
 intro A T W s Q E C B;exact qW P (qm _ _ _ _ _) C j g rfl qu h1 (Fj hf) run λs' ρ' D I m S q l ap hC p _=>⟨m,l,λh' F=>let z:=qY S hC ap p l F;B _ _ _ z.1 (z.2 q)⟩
 intro A T W s u Q E C B;refine aj (qW P (qm _ _ _ _ _) C j g rfl qu h1 (Fj hf) run λs' ρ' D I m S q l ap hC p nw=>(bG (B _ _ _ I m S q l ap hC p nw) (λU Z z=>?_) λU U z=>z));obtain⟨m',h1,L⟩:=z;exact⟨m',h1,λh' F=>ak (L h' F)⟩
end
noncomputable def jM(K:Frag)(a:Addr):FuncData:=match K.lookup a with
 |some ⟨_,_,.func fd,_⟩=>fd
 |_=>default
def aaN(K:Frag)(a:Addr):List Stmt:=match(jM K a).body with
 |.stmts b=>b
 |_=>[]
noncomputable def tK(K:Frag)(a:Addr):List (Str×Str):=match K.lookup a with
 |some ⟨_,_,.dict es _,_⟩=>es.toList.filterMap λe=>match e.key,e.val with
  |.str k _,.str v _=>some (k,v)
  |_,_=>none
 |_=>[]
noncomputable def names3:List Str:=["_write","_data","_with_comments","_strip_text","_exclude_attrs","_exclude_tags","_rewrite_prefixes","_qname_aware_tags","_find_qname_aware_attrs","_declared_ns_stack","_ns_stack","_prefix_map","_preserve_space","_pending_start","_root_seen","_root_done","_ignored_depth","_iter_namespaces","start_ns","start","_start","end","data","_flush","_qname","comment","pi"]
def mz(P:Params)(f:Addr)(n:Nat)(ks:List Str)(ps:List (Str×Src)):Prop:=∀{cx:Cx},(hd.heap_39 P).In cx.g->wW cx (jM (hd.heap_39 P) f) n ks ps
noncomputable def fP:Str:="C14NWriterTarget._start.<locals>.<lambda>"
def gO(P:Params)(sa:Addr)(is:List Int):Cfg:=⟨hd.heap_39 P,143,60,names3,some ((jM (hd.heap_39 P) 119).scope.names,118,116,fP),some (37,tK (hd.heap_39 P) 37),λa=>if a=sa then some is else none,mz P,λU=>False⟩
section
variable (P:Params) (sa:Addr) (is:List Int)
def aaf:(gO P sa is).fn 195=some (jM (hd.heap_39 P) 195):=by rfl
def Uh:(gO P sa is).fn 166=some (jM (hd.heap_39 P) 166):=by rfl
def aae:(gO P sa is).fn 173=some (jM (hd.heap_39 P) 173):=by rfl
def Ui:(gO P sa is).fn 180=some (jM (hd.heap_39 P) 180):=by rfl
def DW:(gO P sa is).fn 185=some (jM (hd.heap_39 P) 185):=by rfl
def Jc:(gO P sa is).fn 190=some (jM (hd.heap_39 P) 190):=by rfl
def DY:(gO P sa is).fn 133=some (jM (hd.heap_39 P) 133):=by rfl
def ael:(gO P sa is).fn 140=some (jM (hd.heap_39 P) 140):=by rfl
def Uj:(gO P sa is).fn 60=some (jM (hd.heap_39 P) 60):=by rfl
def Og:(gO P sa is).fn 83=some (jM (hd.heap_39 P) 83):=by rfl
def Uk:(gO P sa is).fn 90=some (jM (hd.heap_39 P) 90):=by rfl
def Oh:(gO P sa is).fn 99=some (jM (hd.heap_39 P) 99):=by rfl
def DX:(gO P sa is).fn 106=some (jM (hd.heap_39 P) 106):=by rfl
def Oe:(gO P sa is).fn 113=some (jM (hd.heap_39 P) 113):=by rfl
def Jb:(gO P sa is).fn 119=some (jM (hd.heap_39 P) 119):=by rfl
def aag:(gO P sa is).fn 126=some (jM (hd.heap_39 P) 126):=by rfl
def aah:(gO P sa is).fn 154=some (jM (hd.heap_39 P) 154):=by rfl
def aai:(gO P sa is).fn 161=some (jM (hd.heap_39 P) 161):=by rfl
def Tv:makesIn (gO P sa is).K (gO P sa is).C=true/\findIn (gO P sa is).K (.ref (gO P sa is).C) "__init__"=some (some (.ref (gO P sa is).init))/\typeIn (gO P sa is).K (.ref (gO P sa is).init)=some (.type "function"):=⟨by kernel_rfl,by kernel_rfl,by kernel_rfl⟩
def aaJ:(gO P sa is).names.all (s6 (gO P sa is).K (gO P sa is).C)=true:=by kernel_rfl
def SN:(gO P sa is).glob "list"=some (.e .list):=by rfl
def Zg:nsIn (gO P sa is).K mainGlobals lE=some (some (.ref 37)):=by rfl
def Ve:codeHdIn (gO P sa is).K 118 116=true:=by rfl
def Ih:noTabs (gO P sa is).K=true:=by rfl
def Zu:nsIn (gO P sa is).K mainGlobals "law"=some (some (.ref 195)):=by rfl
def X5:mz P 195 1 [] [("script",.arg 0)]:=λX=>gG _ X rfl () λvs h=>by obtain⟨a,rfl⟩:=len1 h;exact⟨[a],by kernel_rfl,.cons rfl (.nil)⟩
def Rc:mz P 166 1 [] [("stack",.arg 0)]:=λX=>gG _ X rfl () λvs h=>by obtain⟨a,rfl⟩:=len1 h;exact⟨[a],by kernel_rfl,.cons rfl (.nil)⟩
def X3:mz P 173 1 [] [("key",.arg 0)]:=λX=>gG _ X rfl () λvs h=>by obtain⟨a,rfl⟩:=len1 h;exact⟨[a],by kernel_rfl,.cons rfl (.nil)⟩
def Rf:mz P 180 2 [] [("key",.arg 0),("prefixes",.arg 1)]:=λX=>gG _ X rfl () λvs h=>by obtain⟨a,b,rfl⟩:=Af h;exact⟨[a,b],by kernel_rfl,.cons rfl (.cons rfl (.nil))⟩
def Cr:mz P 185 2 [] [("text",.arg 0),("names",.arg 1)]:=λX=>gG _ X rfl () λvs h=>by obtain⟨a,b,rfl⟩:=Af h;exact⟨[a,b],by kernel_rfl,.cons rfl (.cons rfl (.nil))⟩
def HB:mz P 190 3 [] [("script",.arg 0),("tags",.arg 1),("keys",.arg 2)]:=λX=>gG _ X rfl () λvs h=>by obtain⟨a,b,c,rfl⟩:=Ms h;exact⟨[a,b,c],by kernel_rfl,.cons rfl (.cons rfl (.cons rfl (.nil)))⟩
def Cv:mz P 133 2 [] [("self",.arg 0),("text",.arg 1)]:=λX=>gG _ X rfl () λvs h=>by obtain⟨a,b,rfl⟩:=Af h;exact⟨[a,b],by kernel_rfl,.cons rfl (.cons rfl (.nil))⟩
def aci:mz P 140 3 [] [("self",.arg 0),("target",.arg 1),("data",.arg 2)]:=λX=>gG _ X rfl () λvs h=>by obtain⟨a,b,c,rfl⟩:=Ms h;exact⟨[a,b,c],by kernel_rfl,.cons rfl (.cons rfl (.cons rfl (.nil)))⟩
def Ag{kvs:List (Str×Value)}(h:kvs.map (·.1)=x::l):∃a r,kvs=(x,a)::r/\r.map (·.1)=l:=by
 cases kvs with
 |nil=>lia
 |cons p r=>
  obtain⟨h1,b⟩:=List.cons.inj h;exact⟨p.2,r,by rw[<- h1],b⟩
def adQ{kvs:List (Str×Value)}{x w:Str}(h:kvs.map (·.1)=[x,y,z,u,w]):∃a b c d e,kvs=[(x,a),(y,b),(z,c),(u,d),(w,e)]:=by
 obtain⟨a,r1,f,h1⟩:=Ag h;obtain⟨b,r,m,g⟩:=Ag h1;obtain⟨c,q,j,o⟩:=Ag g;obtain⟨d,p,l,i⟩:=Ag o;obtain⟨e,s,k,n⟩:=Ag i;exact⟨a,b,c,d,e,by rw[f,m,j,l,k,List.map_eq_nil_iff.mp n]⟩
noncomputable def Nh:List (Str×Src):=[("self",.arg 0),("write",.arg 1),("with_comments",.kw 2),("strip_text",.kw 0),("rewrite_prefixes",.kw 1),("qname_aware_tags",.dflt .n),("qname_aware_attrs",.dflt .n),("exclude_attrs",.kw 4),("exclude_tags",.kw 3)]
def Km:mz P 83 2 [] [("self",.arg 0),("qname",.arg 1),("uri",.dflt .n)]:=λX=>gG _ X rfl () λvs h=>by obtain⟨a,b,rfl⟩:=Af h;exact⟨[a,b,.none],by kernel_rfl,.cons rfl (.cons rfl (.cons (λU U U U=>.none) (.nil)))⟩
def Ri:mz P 90 2 [] [("self",.arg 0),("data",.arg 1)]:=λX=>gG _ X rfl () λvs h=>by obtain⟨a,b,rfl⟩:=Af h;exact⟨[a,b],by kernel_rfl,.cons rfl (.cons rfl (.nil))⟩
def Ko:mz P 99 1 [] [("self",.arg 0),("_join_text",.dflt (.k .tG (.s "")))]:=λX=>gG _ X rfl () λvs h=>by obtain⟨a,rfl⟩:=len1 h;exact⟨[a,.ref 91],by kernel_rfl,.cons rfl (.cons (λU U U hk=>.bm (p:=.tG) (v:=.str "" 430) rfl (hk _ _ (X 91 _ rfl)) (.str _ _)) (.nil))⟩
def Cu:mz P 106 3 [] [("self",.arg 0),("prefix",.arg 1),("uri",.arg 2)]:=λX=>gG _ X rfl () λvs h=>by obtain⟨a,b,c,rfl⟩:=Ms h;exact⟨[a,b,c],by kernel_rfl,.cons rfl (.cons rfl (.cons rfl (.nil)))⟩
def Kl:mz P 113 3 [] [("self",.arg 0),("tag",.arg 1),("attrs",.arg 2)]:=λX=>gG _ X rfl () λvs h=>by obtain⟨a,b,c,rfl⟩:=Ms h;exact⟨[a,b,c],by kernel_rfl,.cons rfl (.cons rfl (.cons rfl (.nil)))⟩
def Hz:mz P 119 4 [] [("self",.arg 0),("tag",.arg 1),("attrs",.arg 2),("new_namespaces",.arg 3),("qname_text",.dflt .n)]:=λX=>gG _ X rfl () λvs h=>by obtain⟨a,b,c,d,rfl⟩:=ahF h;exact⟨[a,b,c,d,.none],by kernel_rfl,.cons rfl (.cons rfl (.cons rfl (.cons rfl (.cons (λU U U U=>.none) (.nil)))))⟩
def Rh:mz P 126 2 [] [("self",.arg 0),("tag",.arg 1)]:=λX=>gG _ X rfl () λvs h=>by obtain⟨a,b,rfl⟩:=Af h;exact⟨[a,b],by kernel_rfl,.cons rfl (.cons rfl (.nil))⟩
def X8:mz P 154 1 [] [("text",.arg 0)]:=λX=>gG _ X rfl () λvs h=>by obtain⟨a,rfl⟩:=len1 h;exact⟨[a],by kernel_rfl,.cons rfl (.nil)⟩
def Yb:mz P 161 1 [] [("text",.arg 0)]:=λX=>gG _ X rfl () λvs h=>by obtain⟨a,rfl⟩:=len1 h;exact⟨[a],by kernel_rfl,.cons rfl (.nil)⟩
def Rg:mz P 60 2 ["strip_text","rewrite_prefixes","with_comments","exclude_tags","exclude_attrs"] Nh:=λX=>zE _ X rfl () λvs kvs h hk=>by
 obtain⟨a,b,rfl⟩:=Af h;obtain⟨c,d,e,f,g,rfl⟩:=adQ hk;exact⟨[a,b,e,c,d,.none,.none,g,f],by kernel_rfl,.cons rfl (.cons rfl (.cons rfl (.cons rfl (.cons rfl (.cons (λU U U U=>.none) (.cons (λU U U U=>.none) (.cons rfl (.cons rfl .nil))))))))⟩
def Rb(X:(hd.heap_39 P).In cx.g){ps:List (Str×Src)}(h1:(gO P sa is).fn f=some fd)(a:(gO P sa is).sig f n ks ps):wW cx fd n ks ps:=by
 obtain⟨⟨c,od,dat,b⟩,e,d⟩:=Cfg.aem h1;have e:(hd.heap_39 P).lookup f=some ⟨c,od,dat,b⟩:=e;cases d;have:=a X;unfold jM at this;rw[e]at this;exact this
end
section
def H0:Hp:=⟨λU=>.t 116 fP,1⟩
noncomputable def Ox(K:Frag)(a:Addr):Array DictEntry:=match K.lookup a with
 |some ⟨_,_,.dict es _,_⟩=>es
 |_=>#[]
noncomputable def aic(K:Frag)(a:Addr):Nat:=match K.lookup a with
 |some ⟨_,_,.dict _ n,_⟩=>n
 |_=>0
def yS(P:Params):List DictEntry->Prop
 |[]=>True
 |e::r=>(VD λx t y u=>e.key=.str x t/\e.hash=PyData.keyHash P x/\e.val=.str y u)/\yS P r
noncomputable def qT(e:DictEntry):Option (Str×Str):=match e.key,e.val with
 |.str k _,.str v _=>some (k,v)
 |_,_=>none
theorem Ec:yS w.params l->(∀e∈l,∃x,(PySem.strKind prog w).is x e.key=true/\e.hash=PyData.keyHash w.params x)/\∃ps:List (Str×Value),Pairs (PySem.strKind prog w) l ps/\ps.map (·.1)=(l.filterMap qT).map (·.1)/\StrsAre (ps.map (·.2)) ((l.filterMap qT).map (·.2))/\ps.length=l.length:=by
 induction l with
 |nil=>exact λU=>⟨λU h=>(nomatch h),[],.nil,rfl,.nil,rfl⟩
 |cons e l ih=>
  rintro ⟨⟨x,t,y,u,h1,c,b⟩,h⟩;obtain⟨d,ps,j,g,i,f⟩:=ih h;have es:qT e=some (x,y):=by unfold qT;rw[h1,b]
  refine⟨λm a=>?_,(x,e.val)::ps,.cons (by rw[h1];exact strKind_is prog w x t) rfl j,?_,?_,congrArg _ f⟩
  rcases aA a with rfl|a
  exact⟨x,by rw[h1];exact strKind_is prog w x t,c⟩
  exact d m a
  rw[cL,es];exact congrArg _ g
  rw[cL,es,b];exact .cons _ _ i
set_option tactic.hygienic true in
def ints_rep(h:IntsAre vs is):∀n W h',dR n W h' vs (is.map .i):=λn W h'=>by
 induction h with
 |nil=>exact .nil
 |cons _ ih=>rename_i ih;exact .cons (.int _ _) ih
def GF{α:Type}[Decidable p]{x y:α}{m:α->Prop}(h:(if p then some x else none)=some y)(z:p->m x):m y:=by
 by_cases hp:p
 ·rw[if_pos hp]at h;exact bh h▸z hp
 ·lia
theorem YT{g:Heap}(k:(hd.heap_39 w.params).In g):∃ps,((37:Addr)==sysModules)=false/\ps.length<=1000/\g.DictOf (PySem.strKind prog w) 37 ps/\ps.map (·.1)=(tK (hd.heap_39 w.params) 37).map (·.1)/\StrsAre (ps.map (·.2)) ((tK (hd.heap_39 w.params) 37).map (·.2)):=by
 have hl:(hd.heap_39 w.params).lookup 37=some ⟨.type "dict",none,.dict (Ox (hd.heap_39 w.params) 37) (aic (hd.heap_39 w.params) 37),#[]⟩:=by kernel_rfl
 have c:yS w.params (Ox (hd.heap_39 w.params) 37).toList:=⟨⟨_,_,_,_,rfl,rfl,rfl⟩,⟨_,_,_,_,rfl,rfl,rfl⟩,⟨_,_,_,_,rfl,rfl,rfl⟩,⟨_,_,_,_,rfl,rfl,rfl⟩,⟨_,_,_,_,rfl,rfl,rfl⟩,⟨_,_,_,_,rfl,rfl,rfl⟩,⟨_,_,_,_,rfl,rfl,rfl⟩,trivial⟩;obtain⟨l,ps,j,a,i,h⟩:=Ec (prog:=prog) c;have b:tK (hd.heap_39 w.params) 37=(Ox (hd.heap_39 w.params) 37).toList.filterMap qT:=by kernel_rfl
 have hz:(Ox (hd.heap_39 w.params) 37).toList.length=7:=by kernel_rfl
 have d:(((Ox (hd.heap_39 w.params) 37).toList.filterMap qT).map (·.1)).Nodup:=of_decide_eq_true (by kernel_rfl);exact⟨ps,(),by rw[h,hz];decide,⟨_,_,_,k _ _ hl,⟨rfl,rfl,rfl⟩,rfl,λe f=>l e (Array.mem_toList_iff.mpr f),j,by rw[a];exact d⟩,by rw[b];exact a,by rw[b];exact i⟩
set_option tactic.hygienic true in
def Z0(z:∀(P:Params) (sa:Addr) (is:List Int),is.length<=63->∀⦃cx⦄,eY (gO P sa is).pe cx->∃H',gV cx 150 (.f 195) [.f sa] [] H0 (.b true) H'/\H'.f 0=.t 116 fP):PySem.Challenge.rw_dr0138_05.Holds:=by
 refine hd ?_;intro w s₀ s₁ mg mb G Y7 fa o pm cd doc dV kV ho hd M hD u hg args vals as F E X V R;have I:=km_in_of Y7;have Z:=km_tabs_of Y7;clear M hD hd ho;refine Ground.open G ?_;intro T7 B D TE TW
 wrow_args F E X V R
 rename_i is _ _ _ _ _ _ _ sa vs _ hL _ _ _ hI _ hlen _;have Q:fa=195:=by
  have h1:=mg_of I T7.g (Zu w.params sa is);have N:mg "law"=some (.ref fa):=u;rw[h1]at N;cases N;rfl
 subst Q;clear u;have d:TabsAt [(118,116)] s₁.heap:=λq hq=>by
  rw[List.mem_singleton]at hq;subst hq;exact⟨codeHd_of_K I (Ve w.params sa is),Z 116 (by simp)⟩
 have k:is.length<=63:=by
  have:=hlen;lia
 have s:=ghost_top d T7
 let cx:Cx:=⟨PySem.Challenge.rw_dr0138_05.row.prog,w,ghostOf s₁.heap [(118,116)],s₁.os,hd.heap_39 w.params,(gO w.params sa is).lamT⟩
 have L:(hd.heap_39 w.params).In cx.g:=ghost_K d I (Ih w.params sa is);have A:iQ cx:=by
  obtain⟨mc,⟨o,_,_,e,_⟩,_⟩:=s.nodigits;exact⟨o,e⟩
 have PK:eY (gO w.params sa is).pe cx:=by
  refine RT (c:=gO w.params sa is) (mg:=mg) (mb:=mb) rfl rfl L s.g s.b T7.builtins s.nolimit A (Tv w.params sa is) (aaJ w.params sa is) ?_ ?_ ?_ (Rb _ _ _ L) (λh=>h.elim)
  ·intro O a P q h;refine GF (p:=O=(jM (hd.heap_39 w.params) 119).scope.names) (x:=((118:Addr),(116:Addr),fP)) (m:=λy=>CodeHd cx.g y.1 y.2.1/\∃mg,cx.g.Ns mainGlobals mg/\cx.g.BuiltinsAt mg y.2.1/\mainGlobals≠y.2.1) h λU=>⟨(ghost_code d).1,mg,s.g,?_,()⟩;obtain⟨bm,ob,b1,b2,b3,b4,b5,b6⟩:=s.bmain;refine⟨bm,ob,b1,b2,λq=>?_,λq=>?_,b3,b4,b5,b6⟩
   ·obtain⟨o,es,ep,ho,hd,_⟩:=s.g;rw[<- q,b3]at ho;rw[<- bh ho,b6]at hd;contradiction
   ·rw[q,show(ghostOf s₁.heap [(118,116)]).get? 116=none from hideAll_none _ (by simp)]at b3;exact gB b3
  ·intro a l h;have e:=Prod.mk.inj (bh (show some ((37:Addr),tK (hd.heap_39 w.params) 37)=some (a,l)from h));exact e.1▸e.2▸⟨SN w.params sa is,Zg w.params sa is,YT L⟩
  ·intro a js h;exact GF (p:=a=sa) (x:=is) (m:=λjs=>js.length<=1000/\∃vs:Array Value,cx.g.IsList a vs/\∀n W h,dR n W h vs.toList (js.map .i)) h λe=>⟨aK k (),vs.toArray,by rw[e];exact ghost_list d hL,λn W h=>by rw[List.toList_toArray];exact ints_rep hI n W h⟩
 have I0:Inv cx (λU=>116) H0 s₁:=by
  refine⟨λb o e=>of_hideAll _ e,rfl,.of_eq hg,λi hi=>?_,λi j hi hj U=>?_,λi hi=>hideAll_none _ (by simp),A,λi hi=>by decide⟩
  ·exact⟨rfl,#[],(d (118,116) (by simp)).2,trivial,λpos cv e=>by cases e⟩
  ·have h1:i<1:=hi;have N:j<1:=hj;lia
 obtain⟨H',go,K⟩:=z w.params sa is k PK;unfold gV at go;refine go (fv:=.ref 195) (first:=[]) (vs:=[.ref sa]) (kvs:=[]) ⟨rfl,(),()⟩ I0 (.obj (.fn 195)) (.cons (.fn sa) .nil) ⟨rfl,.nil⟩ λv s' ρ' S r=>?_;have hv:=r.uK;subst hv;have keep:∀b o,b≠116->s₁.heap.get? b=some o->s'.heap.get? b=some o:=λb o hb e=>S.inv.keep b o (ghost_ne e (by simpa using hb));have H:=S.inv.objs 0 (aM () S.le);rw[K,S.rY 0 ()]at H;obtain⟨_,ps,C,_⟩:=H;refine⟨.inl ⟨_,.bool true,[],rfl,λU=>rfl,.bool true,?_,λU=>⟨.nil,λU h=>by simp at h⟩⟩,⟨λb o e=>?_,λb o e=>?_⟩,S.inv.os,S.inv.bare⟩
 ·first|wrow_post|kernel_rfl
 ·by_cases hb:b=116
  ·subst hb;have e2:=(d (118,116) (by simp)).2;rw[e]at e2;cases e2;exact .inr (.inl ⟨((d (118,116) (by simp)).1.tab (d (118,116) (by simp)).2).isCodeTable,rfl,#[],ps,rfl,by rw[Array.empty_append];exact C⟩)
  ·exact .inl (keep b o hb e)
 ·by_cases hb:b=116
  ·subst hb;exact⟨_,C⟩
  ·exact⟨o,keep b o hb e⟩
end
section
variable {n:Nat} {h:Heap}
end
section
variable {n:Nat} {a:Addr} {x:V}
end
open Mine.Internal.mQ Mine.Internal.mR
def fM{a b:Nat}(h:Nat.ble a b=true):a<=b:=bO h
noncomputable def eqS:V->V->Option Bool
 |.s a,.s b=>some (a==b)
 |.i a,.i b=>some (a==b)
 |_,_=>none
def aao{a b:V}{t:Bool}(h:eqS a b=some t):Qv H a b t:=by
 cases a with
 |s x=>cases b with
  |s y=>cases h;exact .str
  |_=>first|exact gB h|exact iC h|cases h
 |i x=>cases b with
  |i y=>cases h;exact .int
  |_=>first|exact gB h|exact iC h|cases h
 |_=>first|exact gB h|exact iC h|cases h
def qQ{b:V}(h:isNone b=true):b=.n:=by
 cases b with
 |n=>rfl
 |_=>first|exact gB h|exact iC h|cases h
def afQ:V->V->Option V
 |.s x,.s y=>if x.length+y.length<=lim then some (.s (x++y))else none
 |.i x,.i y=>some (.i (x+y))
 |_,_=>none
noncomputable def Tt(f:Int->Int->Int)(p:Int->Bool):V->V->Option V
 |.i x,.i y=>if p y=true then some (.i (f x y))else none
 |_,_=>none
noncomputable def adl:V->V->Option V
 |.i x,.i y=>if x=7 then some (.i (7*y))else none
 |_,_=>none
noncomputable def acE:V->V->Option V
 |.i x,.i y=>if x=2/\0<=y/\y<20 then some (.i (2 ^ y.toNat))else none
 |_,_=>none
theorem tB.aho{y:Int}:tB H .Mult (.i 7) (.i y) (.i (7*y)) H where
 go:=λI b a c=>by
  obtain⟨t,rfl⟩:=b.eN;obtain⟨d,rfl⟩:=a.eN;exact P.mul_int (c _ _ _ (dJ.toks _ I) (.int _ _)) (.of_left ())
 aug:=λ_ {cx A s W E u v Q} I b a c=>by
  obtain⟨t,rfl⟩:=b.eN;obtain⟨d,rfl⟩:=a.eN;exact P.imul_int (c _ _ (dJ.toks _ I) (.int _ _)) (.of_left ())
def Sd{a b:V}(h:adl a b=some v):tB H .Mult a b v H:=by
 cases a with
 |i x=>cases b with
  |i y=>obtain⟨rfl,rfl⟩:=fU h;exact .aho
  |_=>lia
 |_=>first|exact gB h|exact iC h|cases h
def RK{a b:V}(h:acE a b=some v):tB H .Pow a b v H:=by
 cases a with
 |i x=>cases b with
  |i y=>obtain⟨⟨rfl,h'⟩,rfl⟩:=fU h;exact .ag7 h'
  |_=>lia
 |_=>first|exact gB h|exact iC h|cases h
def Vn(op:Operator)(a b:V):Option V:=match op with
 |.Add=>afQ a b
 |.Sub=>Tt (· - ·) (λU=>true) a b
 |.FloorDiv=>Tt (· / ·) (λy=>decide (0<y/\y<2 ^ 30)) a b
 |.Mod=>Tt (· % ·) (λy=>decide (0<y/\y<2 ^ 30)) a b
 |.Mult=>adl a b
 |.Pow=>acE a b
 |_=>none
def Vx{a b:V}(h:afQ a b=some v):tB H .Add a b v H:=by
 cases a with
 |s x=>cases b with
  |s y=>obtain⟨h',rfl⟩:=fU h;exact .afR h'
  |_=>first|exact gB h|exact iC h|cases h
 |i x=>cases b with
  |i y=>exact bh h▸.aiS
  |_=>first|exact gB h|exact iC h|cases h
 |_=>first|exact gB h|exact iC h|cases h
def yj{a b:V}(h:Tt f p a b=some v):W8 (λx y=>a=.i x) (λx y=>b=.i y) (λx y=>p y=true) (λx y=>v=.i (f x y)):=by
 cases a with
 |i x=>cases b with
  |i y=>obtain⟨h',rfl⟩:=fU h;exact⟨x,y,rfl,rfl,h',rfl⟩
  |_=>first|exact gB h|exact iC h|cases h
 |_=>first|exact gB h|exact iC h|cases h
def afH{a b:V}(h:Vn op a b=some v):tB H op a b v H:=by
 cases op with
 |Add=>exact Vx h
 |Sub=>obtain⟨x,y,rfl,rfl,_,rfl⟩:=yj h;exact .agC
 |FloorDiv=>obtain⟨x,y,rfl,rfl,h',rfl⟩:=yj h;exact .aiy (of_decide_eq_true h')
 |Mod=>obtain⟨x,y,rfl,rfl,h',rfl⟩:=yj h;exact .ahp (of_decide_eq_true h')
 |Mult=>exact Sd h
 |Pow=>exact RK h
 |_=>first|exact gB h|exact iC h|cases h
section
variable {pe:Pe} {n:Nat} {H0 H2:Hp} {u x:V} {p:Pos} {fl:Fl}
def vd(h:own O y=true):GA cx n O (.Name y p) u J H (eO J y u) H:=by refine Ew ?_;exact if_pos h
def s8(h1:unp H u=some xs)(a:jl O ts xs J=some dI):GA cx n O (.Tuple ts j p) u J H dI H:=Ew (by
 show(unp H u).bind _=_;rw[h1];exact a)
def jz(h:H.f i=.l xs):items H (.r i)=some (xs,some i):=by
 show uF i (H.f i)=_;rw[h];rfl
def attr_list{m:Pm}(h:H.f i=.l xs)(a:nW.lookup name=some m):attr pe H name (.r i)=some (.k m (.r i)):=by
 show wV pe H name i (H.f i)=_;rw[h];show(nW.lookup name).map _=_;rw[a];rfl
def wU{m:Pm}(h:H.f i=.d kvs)(a:n8.lookup name=some m):attr pe H name (.r i)=some (.k m (.r i)):=by
 show wV pe H name i (H.f i)=_;rw[h];show(n8.lookup name).map _=_;rw[a];rfl
def ux{l m:Loc}:∀y v,l.lookup y=some v->(l++m).lookup y=some v:=λy v h=>by rw[List.lookup_append,h];rfl
theorem Hh:∀{xs:List V},(∀x∈xs,∃dI,iB O H target x J=some dI/\((zf cx n O dI ifs H true H/\Fb cx n O em gens dI H (f x) H)\/(zf cx n O dI ifs H false H/\f x=[])))->stands H H src ->
  Ho cx n O em gens target ifs J src H xs H (xs.flatMap f) H:=by
 intro xs
 induction xs with
 |nil=>exact λU U=>El
 |cons x xs ih=>
  intro h c;rw[cX];obtain⟨dI,h1,a⟩:=h x cQ;have ih:=ih (λy d=>h y (List.mem_cons_of_mem _ d)) c;rcases a with⟨a,b⟩|⟨a,b⟩
  exact yJ h1 a b c ih
  rw[b];exact Pj h1 a c ih
def afz(h:∀x∈xs,∃dI,iB O H target x J=some dI/\zf cx n O dI ifs H true H/\Fb cx n O em gens dI H [x] H)(d:stands H H src):Ho cx n O em gens target ifs J src H xs H xs H:=by
 have:=Hh (λx c=>by obtain⟨l,a,b⟩:=h x c;exact⟨l,a,.inl b⟩) d
 rwa [List.flatMap_singleton']at this
end
section
variable {pe:Pe} {n:Nat} {H2:Hp} {fl:Fl}
end
section
variable {pe:Pe} {n:Nat} {H2:Hp} {fl:Fl}
end
noncomputable abbrev LH:=List (Nat×dN)
noncomputable abbrev ks(l:LH):List Nat:=l.map (·.1)
structure Has (H:Hp) (l:LH):Prop where
 el:∀p∈l,p.1<H.n/\H.f p.1=p.2
 nd:(ks l).Nodup
structure Tp (H0:Hp) (l0:LH) (H:Hp) (l:LH):Prop where
 has:Has H l
 le:H0.n<=H.n
 fr:∀i,i<H0.n->i∉ks l0->H.f i=H0.f i
 nw:∀i∈ks l,i∈ks l0\/H0.n<=i
section
variable {H0 H2:Hp} {l l0 l1 l2 k:LH}
def Has.lt(h:Has H l)(hi:i∈ks l):i<H.n:=by
 obtain⟨p,hp,rfl⟩:=aF hi;exact(h.el p hp).1
def Has.to(h:Has H l)(hp:k.Perm l):Has H k:=⟨λp q=>h.el p (hp.mem_iff.mp q),(hp.map _).nodup_iff.mpr h.nd⟩
def Has.sub(h:Has H l)(hp:k.Sublist l):Has H k:=⟨λp q=>h.el p (hp.subset q),(hp.map _).nodup h.nd⟩
def Tp.refl(h:Has H l):Tp H l H l:=⟨h,bT _,λU U U=>rfl,λU h=>.inl h⟩
def Tp.trans(a:Tp H0 l0 H1 l1)(b:Tp H1 l1 H2 l2):Tp H0 l0 H2 l2:=
 ⟨b.has,aK a.le b.le,λi h1 c=>(b.fr i (aM h1 a.le) λq=>(a.nw i q).elim c λq=>absurd h1 (Nat.not_lt.mpr q)).trans (a.fr i h1 c),
 λi q=>(b.nw i q).elim (a.nw i) λq=>.inr (aK a.le q)⟩
def Tp.to(a:Tp H0 l0 H1 l1)(hp:k.Perm l1):Tp H0 l0 H1 k:=⟨a.has.to hp,a.le,a.fr,λi q=>a.nw i ((hp.map _).mem_iff.mp q)⟩
def Tp.of(a:Tp H0 l0 H1 l1)(hp:k.Perm l0):Tp H0 k H1 l1:=⟨a.has,a.le,λi h q=>a.fr i h λr=>q ((hp.map _).mem_iff.mpr r),λi q=>(a.nw i q).imp (λr=>(hp.map _).mem_iff.mpr r) id⟩
def Tp.sub(a:Tp H0 l0 H1 l1)(hp:k.Sublist l1):Tp H0 l0 H1 k:=⟨a.has.sub hp,a.le,a.fr,λi q=>a.nw i ((hp.map _).subset q)⟩
def xY{a b:List Nat}:(a++b).Nodup↔a.Nodup/\b.Nodup/\∀i∈a,i∉b:=by
 rw[List.nodup_append];exact⟨λh=>⟨h.1,h.2.1,λi q r=>h.2.2 i q i r rfl⟩,λh=>⟨h.1,h.2.1,λi q j r e=>h.2.2 i q (e▸r)⟩⟩
theorem Tp.frame(h:Has H (l++k))(a:Tp H l H1 l1):Tp H (l++k) H1 (l1++k):=by
 have j:(ks l++ks k).Nodup:=aH▸h.nd;obtain⟨h1,g,d⟩:=xY.mp j;have hk:∀p∈k,p.1<H.n/\H1.f p.1=p.2:=λp q=>by
  have e:=h.el p (aG _ q);exact⟨e.1,(a.fr _ e.1 λr=>d _ r (aJ q)).trans e.2⟩
 have c:∀{a b:LH} {i:Nat},i∈ks (a++b)↔i∈ks a\/i∈ks b:=λ{a b i}=>by
  show i∈(a++b).map _↔_;rw[aH,List.mem_append]
 refine⟨⟨λp q=>(aD q).elim (a.has.el p) λq=>⟨aM (hk p q).1 a.le,(hk p q).2⟩,?_⟩,a.le,λi q r=>a.fr i q λx=>r (c.mpr (.inl x)),λi q=>(c.mp q).elim (λq=>(a.nw i q).imp (λq=>c.mpr (.inl q)) id) λq=>.inl (c.mpr (.inr q))⟩;show((l1++k).map _).Nodup;rw[aH];refine xY.mpr ⟨a.has.nd,g,λi q r=>(a.nw i q).elim (λx=>d i x r) λx=>?_⟩;obtain⟨p,hp,rfl⟩:=aF r;exact absurd (hk p hp).1 (Nat.not_lt.mpr x)
theorem Tp.new(h:Has H l):Tp H l (H.alloc o) ((H.n,o)::l):=by
 have hl:∀{i},i<H.n->(H.alloc o).f i=H.f i:=λh=>if_neg (aY h);refine⟨⟨λp q=>?_,List.nodup_cons.mpr ⟨λq=>absurd (h.lt q) (Nat.lt_irrefl _),h.nd⟩⟩,cF _,λi q U=>hl q,λi q=>?_⟩
 ·rcases aA q with rfl|q
  ·exact⟨aN _,if_pos rfl⟩
  ·have e:=h.el p q;exact⟨Nat.lt_succ_of_lt e.1,(hl e.1).trans e.2⟩
 ·rcases aA q with rfl|q
  ·exact .inr (bT _)
  ·exact .inl q
theorem Tp.put(h:Has H ((i,x)::l)):Tp H ((i,x)::l) (H.put i o) ((i,o)::l):=by
 obtain⟨h1,a⟩:=List.nodup_cons.mp h.nd;have hl:∀{j},j≠i->(H.put i o).f j=H.f j:=λh=>if_neg h;refine⟨⟨λp q=>?_,h.nd⟩,bT _,λj U r=>hl λe=>r (e▸cQ),λj q=>.inl q⟩;rcases aA q with rfl|q
 exact⟨(h.el _ cQ).1,if_pos rfl⟩
 have e:=h.el p (List.mem_cons_of_mem _ q);exact⟨e.1,(hl λr=>h1 (List.mem_map.mpr ⟨p,q,r⟩)).trans e.2⟩
end
noncomputable def nth:LH->Nat->Option (Nat×dN):=λl=>List.rec (λU=>none) (λp U ih i=>Nat.rec (some p) (λj U=>ih j) i) l
noncomputable def acj(o:dN):LH->Nat->LH:=λl=>List.rec (λU=>[]) (λp t ih i=>Nat.rec ((p.1,o)::t) (λj U=>p::ih j) i) l
noncomputable def sel(js:List Nat):LH->Nat->LH×LH:=λl=>List.rec (λU=>([],[])) (λp U ih i=>bif js.contains i then(p::(ih (i+1)).1,(ih (i+1)).2)else((ih (i+1)).1,p::(ih (i+1)).2)) l
def CZ:∀{j:Nat} {p:Nat×dN},nth l j=some p->∃t:LH,l.Perm (p::t)/\∀o,(acj o l j).Perm ((p.1,o)::t):=by
 induction l with
 |nil=>exact λh=>nomatch h
 |cons q l ih=>
  intro j p h;cases j with
  |zero=>cases h;exact⟨l,.refl _,λU=>.refl _⟩
  |succ j=>
   obtain⟨t,h1,a⟩:=ih h;exact⟨q::t,(h1.cons q).trans (.swap ..),λo=>((a o).cons q).trans (.swap ..)⟩
theorem tR:∀{i:Nat},((sel js l i).1++(sel js l i).2).Perm l/\(sel js l i).1.Sublist l:=by
 induction l with
 |nil=>exact λ{_}=>⟨.refl _,.refl _⟩
 |cons p l ih=>
  intro i;have h:=ih (i:=i+1);have e:sel js (p::l) i=bif js.contains i then(p::(sel js l _).1,(sel js l _).2)else((sel js l _).1,p::(sel js l _).2):=rfl;rw[e];cases js.contains i
  exact⟨List.perm_middle.trans (h.1.cons p),h.2.cons p⟩
  exact⟨h.1.cons p,h.2.cons_cons p⟩
noncomputable def Zb(js:List Nat):LH->Nat->LH->LH:=λl=>List.rec (λU k=>k) (λp U ih i k=>bif js.contains i then List.rec (ih (i+1) []) (λq k U=>q::ih (i+1) k) k else p::ih (i+1) k) l
theorem Ls:∀{i:Nat} {k:LH},(Zb js l i k).Perm (k++(sel js l i).2):=by
 induction l with
 |nil=>exact λ{_ k}=>by rw[show(sel js [] _).2=[]from rfl,aX];exact .refl _
 |cons p l ih=>
  intro i k;have e:sel js (p::l) i=bif js.contains i then(p::(sel js l _).1,(sel js l _).2)else((sel js l _).1,p::(sel js l _).2):=rfl;have a:Zb js (p::l) i k=bif js.contains i then List.rec (Zb js l _ []) (λq k U=>q::Zb js l _ k) k else p::Zb js l _ k:=rfl;rw[e,a];cases js.contains i
  exact((ih).cons p).trans List.perm_middle.symm
  cases k with
  |nil=>exact ih
  |cons q k=>exact(ih).cons q
variable {B D L X:LH} {J7:Loc->LH->Prop}
noncomputable abbrev Pl:=Nat->Nat
structure To where
 j:Nat
 c:Nat
 js:List Nat
 js2:List Nat
 v:Pl->Pl->V
 fl:Pl->Pl->Fl
 J:Pl->Pl->Loc
 a:Pl->Pl->LH
 r:Pl->Pl->LH
 w:Pl->V
 ss:List Str
 bs:List Bool
 vs:Pl->List V
 pk:Bool
noncomputable def To.n(j:Nat):To:=⟨j,0,[],[],λU U=>.n,λU U=>.next,λU U=>[],λU U=>[],λU U=>[],λU=>.n,[],[],λU=>[],false⟩
noncomputable def To.val(w:Pl->V):To:=⟨1,0,[],[],λU U=>.n,λU U=>.next,λU U=>[],λU U=>[],λU U=>[],w,[],[],λU=>[],false⟩
noncomputable def To.strs(ss:List Str):To:=⟨1,0,[],[],λU U=>.n,λU U=>.next,λU U=>[],λU U=>[],λU U=>[],λU=>.n,ss,[],λU=>[],false⟩
noncomputable def To.bools(bs:List Bool):To:=⟨1,0,[],[],λU U=>.n,λU U=>.next,λU U=>[],λU U=>[],λU U=>[],λU=>.n,[],bs,λU=>[],false⟩
noncomputable def To.vals(vs:Pl->List V):To:=⟨1,0,[],[],λU U=>.n,λU U=>.next,λU U=>[],λU U=>[],λU U=>[],λU=>.n,[],[],vs,false⟩
noncomputable def To.call(c:Nat)(js:List Nat)(v:Pl->Pl->V)(a r:Pl->Pl->LH):To:=⟨0,c,js,[],v,λU U=>.next,λU U=>[],a,r,λU=>.n,[],[],λU=>[],false⟩
noncomputable def To.stm(c:Nat)(js:List Nat)(fl:Pl->Pl->Fl)(J:Pl->Pl->Loc)(a r:Pl->Pl->LH):To:=⟨0,c,js,[],λU U=>.n,fl,J,a,r,λU=>.n,[],[],λU=>[],false⟩
noncomputable def To.sta(c:Nat)(js:List Nat)(fl:Pl->Pl->Fl)(J:Pl->Pl->Loc)(a r:Pl->Pl->LH):To:=⟨0,c,js,[],λU U=>.n,fl,J,a,r,λU=>.n,[],[],λU=>[],true⟩
noncomputable def To.keep(js:List Nat):To:=⟨0,0,js,[],λU U=>.n,λU U=>.next,λU U=>[],λU U=>[],λU U=>[],λU=>.n,[],[],λU=>[],false⟩
noncomputable def To.uD(js js2:List Nat):To:=⟨0,0,js,js2,λU U=>.n,λU U=>.next,λU U=>[],λU U=>[],λU U=>[],λU=>.n,[],[],λU=>[],false⟩
noncomputable def To.zU(vs:Pl->List V)(w:Pl->V):To:=⟨1,0,[],[],λU U=>.n,λU U=>.next,λU U=>[],λU U=>[],λU U=>[],w,[],[],vs,false⟩
structure St where
 a:LH
 r:LH
 o:List To
noncomputable abbrev St.l(s:St):LH:=s.a++s.r
inductive Need (k p:Nat) (x:Bool) (vs:List V) (s:St):Prop
def pop(k p:Nat)(x:Bool)(vs:List V)(s:St)(K:To->St->Prop):Prop:=List.rec (motive:=λU=>Prop) (Need k p x vs s) (λt r U=>K t ⟨s.a,s.r,r⟩) s.o
def peek(s:St)(P Q:Prop):Prop:=List.rec (motive:=λU=>Prop) (Need 12 0 false [] s) (λt U U=>bif t.pk then P else Q) s.o
def wh(b:Bool)(P:Prop):Prop:=bif b then P else False
def op{α:Type}(o:Option α)(K:α->Prop):Prop:=o.elim False K
def rd(p:Nat)(s:St)(K:Nat->dN->St->Prop):Prop:=pop 0 p false [] s λt s1=>op (nth s1.a t.j) λe=>e.1=p/\K t.j e.2 s1
def rj(p j:Nat)(s:St)(K:dN->Prop):Prop:=op (nth s.a j) λe=>e.1=p/\K e.2
def put(j:Nat)(o:dN)(s:St):St:=⟨acj o s.a j,s.r,s.o⟩
def new(o:dN)(s:St)(K:V->St->Prop):Prop:=∀m,K (.r m) ⟨s.a++[(m,o)],s.r,s.o⟩
def dec(x:Bool)(s:St)(K:Bool->St->Prop):Prop:=pop 1 0 x [] s λt s1=>Nat.rec (K x s1) (λj U=>Nat.rec (x=true/\K true s1) (λU U=>x=false/\K false s1) j) t.j
def vm(a:LH):Pl:=λj=>(nth a j).elim 0 (·.1)
def ask(k:Nat)(f:To->Pl->α)(o:Option α)(s:St)(K:α->St->Prop):Prop:=pop k 0 false [] s λt s1=>Nat.rec (op o λv=>K v s1) (λU U=>o=some (f t (vm s1.a))/\K (f t (vm s1.a)) s1) t.j
abbrev Rz{a:Type}(H:Hp)(s:St)(P:a->Hp->Prop)(K:a->St->Prop):Prop:=∀G:Prop,(∀v s' H',P v H'->Tp H s.l H' s'.l->K v s'->G)->G
section
variable {s:St} {p:Nat} {x:Bool} {vs:List V}
def K1{K:To->St->Prop}(h:pop k p x vs s K):Ex2 λt r=>K t ⟨s.a,s.r,r⟩:=by
 obtain⟨a,r,o⟩:=s;cases o with
 |nil=>lia
 |cons t o=>exact⟨t,o,h⟩
def acZ{o:Option α}{K:α->Prop}(h:op o K):∃v,o=some v/\K v:=by
 cases o with
 |none=>lia
 |some v=>exact⟨v,rfl,h⟩
def Has.nth(b:Has H s.l)(e:nth s.a j=some (p,o)):H.f p=o:=by
 obtain⟨t,h1,_⟩:=CZ e;exact(b.el _ (cH _ (h1.mem_iff.mpr cQ))).2
def kh{x:dN}(b:Has H s.l)(e:nth s.a j=some (p,x)):Tp H s.l (H.put p o) (put j o s).l:=by
 obtain⟨t,h1,c⟩:=CZ e;have hp:=(h1.append_right s.r).symm;exact((Tp.put (b.to hp)).of hp.symm).to ((c o).append_right s.r)
def aaA{K:Bool->St->Prop}(h:dec x s K):∃r,K x ⟨s.a,s.r,r⟩:=by
 obtain⟨⟨j,_⟩,r,h⟩:=K1 h;cases j with
 |zero=>exact⟨r,h⟩
 |succ j=>
  cases j with
  |zero=>exact⟨r,h.1▸h.2⟩
  |succ j=>exact⟨r,h.1▸h.2⟩
def aaU{f:To->Pl->α}{o:Option α}{K:α->St->Prop}(h:ask k f o s K):Ex2 λv r=>o=some v/\K v ⟨s.a,s.r,r⟩:=by
 obtain⟨t,r,h⟩:=K1 h;generalize t.j=j at h;cases j with
 |zero=>
  obtain⟨v,e,h⟩:=acZ h;exact⟨v,r,e,h⟩
 |succ j=>exact⟨_,r,h.1,h.2⟩
end
def ZZ(pe:Pe)(R:Cx->Pl->Hp->Hp->Prop)(l:LH)(l':Pl->LH):Prop:=∀⦃cx⦄,eY pe cx->∀H,Has H l->Ex2 λx H'=>R cx x H H'/\Tp H l H' (l' x)
abbrev CC(pe:Pe)(n:Nat)(g:V)(xs:List V)(kw:List (Str×V))(l:LH)(v:Pl->V)(l':Pl->LH):Prop:=ZZ pe (λcx x H H'=>gV cx n g xs kw H (v x) H') l l'
abbrev EE(pe:Pe)(n:Nat)(O:Sc)(J:Loc)(e:Expr)(l:LH)(v:Pl->V)(l':Pl->LH):Prop:=ZZ pe (λcx x H H'=>GE cx n O J e H (v x) H') l l'
abbrev EC(pe:Pe)(n:Nat)(O:Sc)(J:Loc)(e:Expr)(l:LH)(v:Pl->V)(l':Pl->LH):Prop:=ZZ pe (λcx x H H'=>GEC cx n O J e H (v x) H') l l'
abbrev XX(pe:Pe)(n:Nat)(O:Sc)(J:Loc)(st:Stmt)(l:LH)(fl:Pl->Fl)(dI:Pl->Loc)(l':Pl->LH):Prop:=ZZ pe (λcx x H H'=>GX cx n O st J H (fl x) (dI x) H') l l'
abbrev XS(pe:Pe)(n:Nat)(O:Sc)(J:Loc)(body:List Stmt)(l:LH)(fl:Pl->Fl)(dI:Pl->Loc)(l':Pl->LH):Prop:=ZZ pe (λcx x H H'=>vY cx n O body J H (fl x) (dI x) H') l l'
def ZZ.frame{l k:LH}(h:ZZ pe R l l'):ZZ pe R (l++k) λx=>l' x++k:=λU P H c=>by
 obtain⟨x,H',a,b⟩:=h P H (c.sub (cY ..));exact⟨x,H',a,b.frame c⟩
section
variable {n:Nat} (h:n<=m)
include h
def Cn.le(C:Cn cx m O J H A T W s):Cn cx n O J H A T W s:=⟨C.ar.le h,C.en,C.inv,C.vars⟩
def Di{g:V}(q:gV cx n g xs kw H v H'):gV cx m g xs kw H v H':=λU U U U U U U U U a=>q (a.le h)
def ud(q:GE cx n O J e H v H'):GE cx m O J e H v H':=λU U U U U U C=>q (C.le h)
def Sg(q:GEC cx n O J e H v H'):GEC cx m O J e H v H':=⟨ud h q.1,λU U U U U U U C=>q.2 (C.le h)⟩
def Lw(q:GX cx n O e J H fl dI H'):GX cx m O e J H fl dI H':=λU U U U U U C=>q (C.le h)
end
variable {K:V->St->Prop} {l' L' R2:Pl->LH}
def w5(kvs ys:List (Str×V)):List (Str×V):=ys.foldl (λd p=>eO d p.1 p.2) kvs
def Wv:List V->Bool
 |[a,_]=>isS a
 |_=>false
def I3:V->Bool
 |.t xs=>Wv xs
 |_=>false
def mR.Ua{xs:List (Str×V)}(hf:H.f i=.d xs)(hl:xs.length<=lim):mR pe H .len [.r i] (.i xs.length) H:=⟨λ{cx A s W vs Q E} P hh I ra hQ=>by
 obtain⟨v,rfl,a⟩:=ra.inv1;refine jm a.dX λhi=>?_;obtain⟨ps,hd,c,q⟩:=I.dict hi hf;have b:lim=16777216:=rfl;have hz:=map_len c;refine call_len_dict (I.kj P.sys hi) hd () ?_;exact hz▸hQ _ _ _ (dJ.toks _ I) (.int _ _)⟩
theorem mR.NZ{m:Int}(b:0<=m/\m<100000):mR pe H .range [.i m] (.g m.toNat) H:=⟨λ{cx A s W vs Q E} P hh I ra hQ=>by
 obtain⟨v,rfl,a⟩:=ra.inv1;obtain⟨t,rfl⟩:=a.eN;obtain⟨k,rfl⟩:=Int.eq_ofNat_of_zero_le b.1;exact call_range_1 (hQ _ _ _ (dJ.grown _ I (λU U e=>aq _ e) rfl rfl) (.rng () (bR _ rfl)))⟩
theorem mQ.H9(hf:H.f i=.l xs)(g:H.f j=.l ys)(o:i≠j)(hl:xs.length+ys.length<=lim)(e:H.put i (.l (xs++ys))=H1):mQ H .Gu (.r i) [.r j] .n H1 where
 dir:=λ{cx A s W w vs Q E} hg I rw_ ra hQ=>by
  subst e;refine jm rw_.dX λhi=>?_;obtain⟨v,rfl,m⟩:=ra.inv1;refine jm m.dX λb=>?_;obtain⟨ws,k,ho,q⟩:=I.list hi hf;obtain⟨a,k2,c,d⟩:=I.list b g;have hz:ws.size+a.size<=sizeLine:=by rw[size_of q,size_of d,<- o7];exact hl
  refine call_meets F.slot_list_extend ⟨_,ho,rfl⟩ F.entry_list_extend (F.args_list_extend_2 _ _) (AutoSeq1.list_extend_list_list_0 (W i) ws k (W j) a k2 (extend_door hz) (aK (Nat.le_add_right _ _) hz) (cZ hz)) ⟨ho,c,hQ _ _ _ (dJ.nO I hi (Heap.SameBut.update ..) (bV _ ho rfl) (by rw[Array.toList_append];exact q.append d) rfl rfl) .none⟩
 bnd:=λh=>iC h
theorem mQ.KZ(hf:H.f i=.l xs)(hl:strsOf xs=some l)(K:x∈l/\l.length<=1000):mQ H .Mw (.r i) [.s x] (.i (l.idxOf x)) H where
 dir:=λ{cx A s W w vs Q E} hg I rw_ ra hQ=>by
  refine jm rw_.dX λhi=>?_;obtain⟨v,rfl,C⟩:=ra.inv1;obtain⟨t,rfl⟩:=C.dY;obtain⟨ws,k,ho,q⟩:=I.list hi hf;obtain⟨ts,h1,o⟩:=j6 hl q;have hz:ws.size=l.length:=by rw[<- bQ,o,<- h1,aB,aB]
  have j:=List.idxOf_lt_length_of_mem K.1
  have d:∀m (c:m<ws.size),∃t',ws[m]=.str (l[m]'(hz▸c)) t':=λm c=>by
   have n:ws.toList[m]?=some ws[m]:=by rw[bL,bZ c]
   rw[o,bW]at n;obtain⟨p,hp,G⟩:=Option.map_eq_some_iff.mp n;have B:(ts.map (·.1))[m]?=some p.1:=by rw[bW,hp];rfl
   subst h1;have D:=(List.getElem?_eq_some_iff.mp B).2;exact⟨p.2,by rw[<- G,D]⟩
  refine call_meets F.slot_list_index ⟨_,ho,rfl⟩ F.entry_list_index (F.args_list_index_2 _ _) (MeetsSeq.list_index (W i) ws k (.str x t) (λy=>match y with|.str z _=>z.cps.toList==x.cps.toList|_=>false) (λy u=>?_) (l.idxOf x) (hz▸j) () ?_ λm c g=>?_) ⟨ho,hQ _ _ _ (dJ.toks _ I) (.int _ _)⟩
  obtain⟨m,c,rfl⟩:=Array.getElem_of_mem u;obtain⟨t',e⟩:=d m c;exact e▸SeqRoads2.EqGives.str _ _ _ _
  refine(d _ (hz▸j)).elim λt' e=>?_;rw[e];rw[List.getElem_idxOf j];exact bA _
  obtain⟨t',e⟩:=d _ c;rw[e];refine bB λq=>?_;have h1:(l[m]'(hz▸c)==x)=false:=List.not_of_lt_findIdx g;have:l[m]'(hz▸c)=x:=by
   cases hz':l[m]'(hz▸c)with|mk a=>cases x with|mk b=>rw[hz']at q;exact congrArg Str.mk (Array.toList_inj.mp q)
  rw[this,bA]at h1;exact iC h1.symm
 bnd:=λh=>iC h
def Ly{k x:Str}{l:List (Str×V)}(h:x∈(eO l k v).map (·.1)):x∈l.map (·.1)\/x=k:=by
 induction l with
 |nil=>exact .inr (au h)
 |cons p l ih=>
  by_cases e:p.1=k
  rw[show eO (p::l) k v=(k,v)::l from if_pos e]at h;exact(aA h).elim .inr λh=>.inl (.tail _ h)
  rw[show eO (p::l) k v=p::eO l k v from if_neg e]at h;exact(aA h).elim (λh=>.inl (h▸.head _)) λh=>(ih h).imp (.tail _) id
def tQ{k:Str}{l:List (Str×V)}(h:(l.map (·.1)).Nodup):((eO l k v).map (·.1)).Nodup:=by
 induction l with
 |nil=>exact List.nodup_cons.mpr ⟨cR,.nil⟩
 |cons p l ih=>
  rw[cC,cB]at h;by_cases e:p.1=k
  rw[show eO (p::l) k v=(k,v)::l from if_pos e,cC,cB];exact⟨e▸h.1,h.2⟩
  rw[show eO (p::l) k v=p::eO l k v from if_neg e,cC,cB];exact⟨λq=>(Ly q).elim h.1 e,ih h.2⟩
theorem QD:∀{ys:List (Str×V)} {ps:List (Str×Value)} {kvs:List (Str×V)},(ps.map (·.1)).Nodup->ps.map (·.1)=kvs.map (·.1)->dR n W h (ps.map (·.2)) (kvs.map (·.2))->a.map (·.1)=ys.map (·.1)->dR n W h (a.map (·.2)) (ys.map (·.2)) ->
  (merged ps a).map (·.1)=(w5 kvs ys).map (·.1)/\dR n W h ((merged ps a).map (·.2)) ((w5 kvs ys).map (·.2)):=by
 induction a with
 |nil=>intro ys ps kvs _ c q b _;cases List.map_eq_nil_iff.mp b.symm;exact⟨c,q⟩
 |cons p a ih=>
  intro ys ps kvs hd c q b r
  induction ys using List.casesOn with
  |nil=>lia
  |cons y ys=>
   rw[cC]at b r
   cases r with|cons f r=>
   obtain⟨d,g⟩:=List.cons.inj b;obtain⟨e,i⟩:=j7 f hd c q;show(merged (stored ps p.1 p.2) a).map (·.1)=(w5 _ ys).map (·.1)/\dR n W h ((merged (stored ps p.1 p.2) a).map _) _;exact(d).symm▸(ih (by rw[e];exact tQ (c▸hd)) e i g r)
theorem mQ.H6{ys:List (Str×V)}(hf:H.f i=.d kvs)(u:H.f j=.d ys)(l:i≠j)(hl:kvs.length+ys.length<=1000)(e:H.put i (.d (w5 kvs ys))=H1):mQ H .G8 (.r i) [.r j] .n H1 where
 dir:=λ{cx A s W w vs Q E} hg I rw_ ra hQ=>by
  subst e;refine jm rw_.dX λhi=>?_;obtain⟨v,rfl,x⟩:=ra.inv1;refine jm x.dX λb=>?_;obtain⟨ps,hd,m,q⟩:=I.dict hi hf;obtain⟨ps2,k,c,t⟩:=I.dict b u;refine call_meetsIn F.slot_dict_update hd.typeIs F.entry_dict_update (F.args_dict_update_2 _ _) (meets_dict_update _ _ _ (λq=>l (I.inj i j hi b q)) (I.kj hg b)) ⟨ps,ps2,hd,k,by rw[map_len m,map_len c];exact aK hl (),λh' g U p=>?_⟩;have K:Kp H.n W s.heap H.n W h':=⟨bT _,λU U=>rfl,λa o e hc=>p.extBut a o (λq=>I.m6 e hc i hi q.symm) e⟩;obtain⟨z,y⟩:=QD (kJ hd) m (q.mono K) c (t.mono K);exact hQ _ _ _ (dJ.put _ I hi p ⟨_,g,z,y⟩ rfl rfl) .none
 bnd:=iC
section
variable {pe:Pe} {n:Nat} {H2:Hp} {p:Pos} {u:V}
def Ky(h:0<n):seqIndex? (-1) n=some (n-1):=by
 induction n using Nat.casesOn with
 |zero=>lia
 |succ n=>
  show(if(decide (0<=(-1:Int)+((n+1:Nat):Int))&&decide ((-1:Int)+((n+1:Nat):Int)<((n+1:Nat):Int)))=true then some ((-1:Int)+((n+1:Nat):Int)).toNat else none)=some n;rw[Int.natCast_succ,Int.add_comm,Int.add_neg_cancel_right,decide_eq_true (Int.lt_succ n)];rfl
theorem aaX{o i:Expr}(B:GE cx n O J o H (.r d) H1)(y:GE cx n O J i H1 (.i (-1)) H2)(hf:H2.f d=.l xs)(G:xs≠[])(hl:xs.length<=lim)(e:H2.put d (.l (xs.dropLast++[u]))=H3):GA cx n O (.Subscript o i p) u J H J H3:=λA T W s h Q E C q I=>by
 subst e;rw[arm_assign_Subscript];refine aj (ao (B C λo s1 gw g r1=>aj (ao (y (C.step g) λi s2 je b F=>aj (aW (aj (ao ?_)))))));obtain⟨t,rfl⟩:=F.eN;refine jm ((b.rep g.inv r1).dX) λhd=>?_;have z:=(g.trans b).rep C.inv q;obtain⟨ws,k,ho,w⟩:=b.inv.list hd hf;have hz:=size_of w;have h0:0<ws.size:=by rw[hz];exact List.length_pos_iff.mpr G
 unfold setItem
 try with_reducible refine ao ?_
 first|refine aj (ak ?_)|skip
 refine aj (wpAny_sequenceKey (d8 ho).typeIs () ?_);refine aj (wpAny_callSpecial?_slot (d8 ho).typeIs slot_list_setitem (wpAny_call_entry slot_list_setitem (d8 ho).typeIs entry_list_setitem ?_ (args_list_setitem _ _ _)));show wpAny _ _ (Builtin.List.listSubscript? (.int (-1) t) >>=_) _ _ s2;refine aj (wpAny_listSubscript_int () ?_);refine aj (aj ?_);refine aj (wpAny_seqItems ho rfl (ak (ak ?_)));rw[Ky h0];have m:=bZ (Nat.sub_lt h0 Nat.one_pos);show wpAny _ _ (match(Value.ref (je d)),(ws[ws.size-1]?.map (ws.size-1,·))with|.ref a,some (j,_)=>_|_,_=>_) _ _ _;rw[m];have c:=bV (Obj.mapSeq (·.setIfInBounds (ws.size-1) h)) ho rfl;have x:dJ cx fV je H2 s2 je (H2.put d (.l (xs.dropLast++[u]))) {s2 with heap:=s2.heap.update (je d) (Obj.mapSeq (·.setIfInBounds (ws.size-1) h))}:=by
  refine dJ.nO b.inv hd (Heap.SameBut.update ..) c ?_ rfl rfl;have D:(ws.setIfInBounds (ws.size-1) h).toList=ws.toList.dropLast++[h]:=by
   rw[Array.toList_setIfInBounds];have v:ws.toList≠[]:=λq=>by rw[<- bQ,q]at h0;exact absurd h0 (by simp)
   obtain⟨l⟩:=ws;rw[cg];rw[<- List.dropLast_concat_getLast v];simp
  exact D▸w.dropLast.snoc z
 refine aj (wpAny_setSeqItemAt ho rfl ?_);refine aj (ak (ak ⟨.none,rfl,ak ?_⟩));exact wpAny_release (I _ _ ((g.trans b).trans x).zq (C.vars.step C.inv ((g.trans b).trans x)))
def aav{i:Int}(c:GE cx n O J a H (.i i) H1)(hi:i.natAbs.log2<1920):GE cx (n+1) O J (.FormattedValue a (-1) none p) H (.s (toString i:String)) H1:=λA T W s Q E C d=>wpAny_FormattedValue_plain (c C.low λu s1 gw b r1=>by
  obtain⟨t,rfl⟩:=r1.eN;exact wpAny_formatField_int hi (d _ _ _ (b.trans (dJ.toks _ b.inv)) (.str _ _)))
theorem UG(P:eY pe cx){o i:Expr}{sp:Pos}{args:List Expr}{g:V}{ks:List (Str×V)}(c:GE cx n O J (.Subscript o i sp) H g H1)(hc:callable pe g=true)(d:GL cx n O J args H1 xs H2)(b:Qu cx n O J kws H2 ks H3)(x8:gV cx n g xs ks H3 v H4):GE cx (n+1) O J (.Call (.Subscript o i sp) args kws pos) H v H4:=λA T W s Q E C h=>by
 exact aj (c C.low λfv s1 gw a r1=>kO P hc d b x8 (C.low.step a) (.obj r1) λv s2 je e f=>h v s2 je (a.trans e) f)
theorem Xc{b:Nat}{d:Pos}(e:GE cx n O J (.ListComp elt gens scope c) H u H1)(h:GA cx n O (.Tuple ts b d) u J H1 dI H2):GX cx (n+1) O (.Assign [.Tuple ts b d] (.ListComp elt gens scope c) p) J H .next dI H2:=λA T W s Q E C g=>by
 refine aj (aW (aj (bH rfl ?_)));exact aj (e C.low λu s1 gw a r1=>aj (bH rfl (aj (nG rfl h (C.low.step a) r1 λs2 je f X2=>ak (g _ _ _ (dJ.vp a.zq (C.vars.step C.inv a) f) X2 .next)))))
end
theorem mR.N6(hf:H.f i=.d kvs)(hl:kvs.length<=1000)(e:H.alloc (.l (kvs.map λp=>.t [.s p.1,p.2]))=H1):mR pe H .list [.w i] (.r H.n) H1:=⟨λ{cx A s W vs Q E} P hh I ra hQ=>by
 subst e;obtain⟨v,rfl,u⟩:=ra.inv1;obtain⟨hi,a,rfl,y⟩:=u.uI;obtain⟨ps,hd,h,q⟩:=I.dict hi hf;obtain⟨ep,x⟩:=hd.dictAt;refine kdx_call hh ⟨_,y,rfl,rfl⟩ x (by rw[map_len h];exact aK hl ()) λh' tk acc c as hk hD hlen k g=>hQ _ _ _ (dJ.new _ I (fC _) I.Ij hk ⟨acc,c,hD,?_⟩ rfl rfl) gq;rw[g];exact nQ (lo:=0) h (q.mono ⟨cF _,λi hi=>if_neg (aY hi),λb o e U=>hk b o e⟩) hlen λj b m=>k.pairs j b m⟩
section
variable {pe:Pe} {n:Nat} {H2:Hp} {p:Pos} {u:V}
def GDP(cx:Cx)(n:Nat)(O:Sc)(J:Loc)(es:List (Expr×Expr))(H:Hp)(kvs:List (Str×V))(H':Hp):Prop:=∀⦃A T W s⦄ ⦃Q:List (Value×Value)->Shared->Prop⦄ ⦃E⦄ ⦃pos:Pos⦄,Cn cx n O J H A T W s ->
 (∀vs ps s' ρ',dJ cx fV W H s ρ' H' s'->Carries (PySem.strKind cx.prog cx.w) vs ps->ps.map (·.1)=kvs.map (·.1)->dR H'.n ρ' s'.heap (ps.map (·.2)) (kvs.map (·.2))->Q vs s')->wpAny cx.M A (evalPairs (es.map λe=>(eval e.1 T,do let x <- eval e.2 T;standAt pos;pure x))) Q E s
def aaz:GDP cx n O J [] H [] H:=λU U U U U U U C a=>ak (a [] [] _ _ (dJ.refl _ C.inv) trivial rfl .nil)
theorem UL{a b:Expr}{k:Str}(h1:GE cx n O J a H (.s k) H1)(i:GE cx n O J b H1 v H2)(h3:GDP cx n O J es H2 kvs H3):GDP cx n O J ((a,b)::es) H ((k,v)::kvs) H3:=λA T W s Q E pos C q=>by
 refine aj (h1 C λt s1 gw d r1=>aj (ao (aj (i (C.step d) λp s2 je c o=>aj (aW (ak (aj (ao (h3 ((C.step d).step c) λvs ps s3 l g j h m=>ak ?_)))))))));obtain⟨r,rfl⟩:=r1.dY;exact q _ ((k,p)::ps) _ _ ((d.trans c).trans g) ⟨strKind_is _ _ _ _,rfl,j⟩ (congrArg _ h) (.cons (g.rep c.inv o) m)
theorem Uy(h:GDP cx n O J es H kvs H1)(D:(kvs.map (·.1)).Nodup)(h0:es≠[])(k:es.length<=15)(e:H1.alloc (.d kvs)=H2):GE cx (n+1) O J (.Dict (es.map λe=>some e.1) (es.map (·.2)) pos) H (.r H1.n) H2:=λA T W s Q E C B=>by
 subst e;have I:=C.inv;have p:s.heap.get? s.heap.objs.size=none:=fC _;have t:dJ cx fV W H s W H {s with heap:=s.heap.push {cls:=.type "dict",data:=.dict #[]}}:=dJ.grown _ I (λU U e=>aq _ e) rfl rfl;have g:(s.heap.push {cls:=.type "dict",data:=.dict #[]}).get? s.heap.objs.size=some {cls:=.type "dict",data:=.dict #[]}:=bR _ rfl;have c:∀i,i<H.n->W i≠s.heap.objs.size:=λi hi=>aY (I.lt hi);refine wpAny_Dict_pairs (knd:=PySem.strKind cx.prog cx.w) (pairs:=es.map λe=>(eval e.1 T,do let x <- eval e.2 T;standAt pos;pure x)) ?_ (by simpa using h0) (by rw[aB];exact k) ?_
 clear h h0 k
 induction es with
 |nil=>rfl
 |cons a es ih=>exact congrArg _ ih
 refine h (C.low.step t) λvs ps s1 gw l z v r1=>?_;have S:=t.trans l;have f:=l.ext _ _ g c (λx=>x);have m:=l.old g c;refine⟨ps,z,⟨_,#[],0,f,⟨rfl,rfl,rfl⟩,rfl,λe y=>by simp at y,.nil,.nil⟩,λh' hd u=>?_⟩;rw[merged_nil_of_nodup ps ()]at hd;refine B _ _ _ (S.adopt p I.Ij m (jA I p).1 () u.extBut ⟨ps,hd,v,?_⟩ rfl rfl) gq;exact r1.mono ⟨cF _,λi hi=>if_neg (aY hi),λb o e hc=>u.extBut b o (λq=>by rw[q,f]at e;cases e;exact absurd hc.1 (by decide+kernel)) e⟩
end
section
open Sem (wp)
section
variable {s:Shared}
theorem R6{xs:Array Value}(i:s.heap.get? a=some {cls:=.type "list",data:=.seq xs k})(l:A.handled=none)(h:∀h' tk,(∀b o,s.heap.get? b=some o->h'.get? b=some o)->Q none {s with heap:=h',toks:=tk}):wpAny (model prog w) A (getAttr? (.ref a) "keys") Q E s:=by
 obtain⟨hp,g,d,tk,os⟩:=s;have j:∀f,(⟨hp,g,d,f,os⟩:Shared).TypeIs (.ref a) "list":=λU=>⟨_,i,rfl⟩;have f1:=sub_AttributeError;have f3:=F.slot_list_getattribute.lookup;have q:=F.slot_list_getattribute.bind (.ref a);have p:=am_list_getattr_none;unfold getAttr? getAttrBy? getAttrBy
 repeat (any_goals (first|assumption|exact j _|((with_reducible show wpAny _ _ _ _ _ _);refine call_meets F.slot_list_getattribute (j _) am_entry_list_getattribute (F.args_list_getattribute_2 _ _) (meets_getattribute_miss_list a xs k #[] "keys" _ (am_miss_of_fast (by decide+kernel)) (by decide+kernel) (by decide+kernel)) ⟨i,l,λh' f e c=>?_⟩)|wp_step))
 obtain⟨r,m,n⟩:=c.there;unfold getattributeRaised
 repeat (any_goals (first|assumption|wp_step))
 exact h _ _ c.keeps
def wC:plainId "dict.update.loop"=true:=by decide+kernel
def wM:entryFor table "dict.update.loop"=some Builtin.«dict.update.loop»:=entryFor_of_fast rfl
end
section
variable {n:Nat} {s:Shared}
def uV{K:Type}[DecidableEq K]{knd:KeyKind cx.prog cx.w K}{h:Heap}{d:Addr}{ps:List (K×Value)}(x:h.DictOf knd d ps)(k:∀o,h.get? d=some o->h'.get? d=some o):h'.DictOf knd d ps:=by
 obtain⟨o,es,ep,ho,r⟩:=x;exact⟨o,es,ep,k _ ho,r⟩
def Td(h:Wv xs=true):Ex2 λk x=>xs=[.s k,x]:=by
 cases xs with
 |nil=>lia
 |cons a l=>cases l with
  |nil=>lia
  |cons x l=>cases l with
   |cons=>lia
   |nil=>cases a with
    |s k=>exact⟨k,x,rfl⟩
    |_=>exact iC h
theorem Zv{v:Value}{y:V}(hk:I3 y=true)(r:Rep n W h v y):Ex6 λa k t u x kk=>v=.ref a/\h.get? a=some {cls:=.type "tuple",data:=.seq #[.str k t,u] kk}/\Rep n W h u x/\y=.t [.s k,x]:=by
 cases y with
 |t xs=>
  obtain⟨k,x,rfl⟩:=Td hk;obtain⟨a,vs,kk,rfl,e,q⟩:=r.pQ;obtain⟨d,w2,b,r1,c⟩:=q.inv2;obtain⟨t,rfl⟩:=r1.dY;have:vs=#[.str k t,w2]:=by rw[<- Array.toArray_toList (xs:=vs),b]
  subst this;exact⟨a,k,t,w2,x,kk,rfl,e,c,rfl⟩
 |_=>exact iC hk
theorem UW{l D it:Addr}(hh:A.handled=none)(hl:s.heap.get? l=some {cls:=.type "list",data:=.seq ws kk})(j:D≠it)(L:s.heap.get? D=none)(F:s.heap.get? it=none)(hk:∀y∈ys,I3 y=true)(q:dR n W s.heap ws.toList ys)(hlen:ys.length<=1000)(X:∀h' I ps,(∀b o,s.heap.get? b=some o->h'.get? b=some o)->h'.DictOf (PySem.strKind cx.prog cx.w) D ps->ps.map (·.1)=(iu ys).map (·.1)->dR n W s.heap (ps.map (·.2)) ((iu ys).map (·.2))->R (.ok (.ret .none)) {s with heap:=h',toks:=I}) (k:Nat) :
  ∀(i:Nat) (h:Heap) (tk:Nat) (ps:List (Str×Value)),ys.length-i=k->i<=ys.length->(∀b o,s.heap.get? b=some o->h.get? b=some o)->h.DictOf (PySem.strKind cx.prog cx.w) D ps->ps.map (·.1)=(iu (ys.take i)).map (·.1)->dR n W s.heap (ps.map (·.2)) ((iu (ys.take i)).map (·.2))->h.IsListIter it l i ->
   codeAny cx.M A (.builtin "dict.update.loop" ⟨[.ref D,.ref it,rawInt i,.none],[]⟩) R {s with heap:=h,toks:=tk}:=by
 have hz:=size_of q
 induction k with
 |zero=>
  intro i h tk ps f hi c hd G r g;have K:=Nat.le_antisymm hi ();subst K;refine bJ wM ?_;refine aj (wpAny_pyNext_list_end hh g (d8 (c _ _ hl)) (by rw[Array.getElem?_eq_none_iff,hz];exact bT _) λh' C=>?_);rw[List.take_length]at G r;exact aj (ak (ak (X _ _ ps (λb o e=>C b o () (c b o e)) (uV hd λo e=>C D o j e) G r)))
 |succ k ih=>
  intro i h tk ps f hi c hd G r g;have m:i<ys.length:=Nat.lt_of_sub_pos (f▸Nat.succ_pos k);have S:=bk m;obtain⟨u,hu,ru⟩:=q.get i S;obtain⟨a,kx,t,v,x,k2,rfl,ea,rv,Z⟩:=Zv (hk _ (List.getElem_mem m)) ru;refine bJ wM ?_;refine aj (wpAny_pyNext_list_item g (d8 (c _ _ hl)) (bL▸hu) λh' H C=>?_);have d:=λb o e=>C.extBut b o () (c b o e);have B:=uV hd λo e=>C.extBut D o j e;have hT:∀tk,({s with heap:=h',toks:=tk}:Shared).TypeIs (.ref a) "tuple":=λU=>⟨_,d _ _ ea,rfl⟩;have el:iu (ys.take (i+1))=eO (iu (ys.take i)) kx x:=by
   rw[List.take_succ,S,Z];exact o9 ..
  have N:ps.length<=sizeLine:=by
   rw[map_len G];exact aK (qU _) (aK (aK (List.length_take_le ..) hi) (aK hlen ()))
  refine aj (ao (aj (wpAny_tryCatch ?_)));refine aj (wpAny_typeOf (hT _) ?_);refine aj (wpAny_seqItems (d _ _ ea) rfl (ak ?_));refine ao (wpAny_dictSet_pairs (jL kx t) B λV Q E=>?_);obtain⟨g1,g2⟩:=j7 (k:=kx) rv (kJ B) G r;obtain⟨oi,ho,hc,P⟩:=H;exact ak ⟨bI wC _,ih (i+1) V _ _ (by rw[Nat.sub_succ,f];rfl) m (λb o e=>E.extBut b o (λz=>by rw[z,L]at e;exact gB e) (d b o e)) Q () () ⟨oi,E.extBut _ _ (Ne.symm j) ho,hc,P⟩⟩
end
theorem mR.N7(hf:H.f i=.l ys)(hk:ys.all I3=true)(hl:ys.length<=1000)(e:H.alloc (.d (iu ys))=H1):mR pe H .dict [.r i] (.r H.n) H1:=⟨λ{cx A s W vs Q E} P hh I ra hQ=>by
 subst e;obtain⟨v,rfl,R⟩:=ra.inv1;obtain⟨hi,rfl⟩:=R.dX;obtain⟨ws,k,ho,q⟩:=I.list hi hf;have t:s.heap.get? s.heap.objs.size=none:=fC _;refine callType_codes (Q₁:=λobj m=>obj=.ref s.heap.objs.size/\m={s with heap:=s.heap.push {cls:=.type "dict",data:=.dict #[]}}) F.kt_called_dict (F.kt_typeCall_dict_1 _) F.entry_dict_init (kt_code_dict_new _ ⟨rfl,rfl⟩) ?_
 rintro obj m ⟨rfl,rfl⟩
 have g:(s.heap.push {cls:=.type "dict",data:=.dict #[]}).DictOf (PySem.strKind cx.prog cx.w) s.heap.objs.size []:=Heap.DictOf.new s.heap;have p:=aq ({cls:=.type "dict",data:=.dict #[]}:Obj) ho;refine⟨g.typeIs,F.args_dict_init_2 _ _,(aj ?_)⟩;refine aj (wpAny_notOrdered_dict g.typeIs (ak ?_));refine aj (wpAny_typeOf ⟨_,p,rfl⟩ ?_);refine aj (R6 p hh λh1 L c=>(aj (wpAny_rule ?_)));refine aj (wpAny_pyIter_list (d8 (c _ _ p)) ?_);have up:=λb o e=>c b o (aq _ e);have x:h1.get? h1.objs.size=none:=fC _;have u:=g.keep c;have D:s.heap.objs.size<h1.objs.size:=by obtain⟨o,es,ep,ho,_⟩:=u;exact aV ho
 have K:s.heap.get? h1.objs.size=none:=by
  cases z:s.heap.get? h1.objs.size with
  |none=>rfl
  |some o=>rw[up _ _ z]at x;exact gB x.symm
 have C:Heap.IsListIter (h1.push {cls:=.type "list_iterator",data:=.fields #[.ref (W i),rawInt 0]}) h1.objs.size _ 0:=⟨_,bR _ rfl,rfl,rfl⟩;refine ak ⟨bI wC _,?_⟩;refine UW (A:=A.in1) hh ho () t K (λy N=>List.all_eq_true.mp hk y N) q hl (λh' M ps h G B S=>?_) ys.length 0 _ _ [] rfl () (λb o e=>aq _ (up b o e)) (u.push _) rfl .nil C;refine⟨rfl,hQ _ _ _ (dJ.new _ I t I.Ij h ⟨ps,G,B,S.mono ⟨cF _,λi hi=>if_neg (),λa o e U=>h a o e⟩⟩ rfl rfl) gq⟩⟩
end
section
set_option backward.match.sparseCases false
structure Go where
 e:Sc->Loc->Expr->St->(V->St->Prop)->Prop
 t:Sc->Loc->Expr->St->(Bool->St->Prop)->Prop
 x:Sc->Loc->Stmt->St->(Fl->Loc->St->Prop)->Prop
noncomputable def vS:V->Option Str
 |.s x=>some x
 |_=>none
noncomputable def vI:V->Option Int
 |.i x=>some x
 |_=>none
noncomputable def vR:V->Option Nat
 |.r x=>some x
 |_=>none
noncomputable def vB:V->Option Bool
 |.b x=>some x
 |_=>none
noncomputable def vT:V->Option (List V)
 |.t x=>some x
 |_=>none
noncomputable def vM:V->Option (Pm×V)
 |.k m x=>some (m,x)
 |_=>none
noncomputable def vF:V->Option Bf
 |.e b=>some b
 |_=>none
noncomputable def vW:V->Option Nat
 |.w i=>some i
 |_=>none
noncomputable def oL:dN->Option (List V)
 |.l x=>some x
 |_=>none
noncomputable def oD:dN->Option (List (Str×V))
 |.d x=>some x
 |_=>none
noncomputable def oS:dN->Option (List Str)
 |.e x=>some x
 |_=>none
noncomputable def oI:dN->Option (Addr×Nat)
 |.i C d=>some (C,d)
 |_=>none
noncomputable def oN:dN->Option (List (Str×V))
 |.n x=>some x
 |_=>none
def alt{α:Type}(o:Option α)(f:α->Prop)(P:Prop):Prop:=o.elim P f
def one{α:Type}(xs:List α)(f:α->Prop):Prop:=List.rec (motive:=λU=>Prop) False (λa r U=>List.rec (motive:=λU=>Prop) (f a) (λU U U=>False) r) xs
section
variable (pe:Pe) (n:Nat) (g:Go) (O:Sc) (J:Loc)
def known(k:Nat)(vs:List V)(Z:To->Pl->LH->(Pl->LH)->Prop)(s:St)(K:To->Pl->Pl->St->Prop):Prop:=pop k 0 false vs s λt s1=>
 wh (Nat.ble t.c n) (Z t (vm s1.a) ((sel t.js s1.a 0).1++s1.r) (λx=>t.a (vm s1.a) x++t.r (vm s1.a) x)/\∀x,K t (vm s1.a) x ⟨Zb t.js s1.a 0 (t.a (vm s1.a) x),t.r (vm s1.a) x,s1.o⟩)
def goL:List Expr->St->(List V->St->Prop)->Prop:=List.rec (λs K=>K [] s) λa U ih s K=>wh (!isStar a) (g.e O J a s λu s1=>ih s1 λus s2=>K (u::us) s2)
def aeg:List Keyword->St->(List (Str×V)->St->Prop)->Prop:=List.rec (λs K=>K [] s) λa U ih s K=>op a.arg λk=>g.e O J a.value s λu s1=>ih s1 λus s2=>K ((k,u)::us) s2
def aeh:List Expr->List Expr->St->(List (Str×V)->St->Prop)->Prop:=List.rec (λvs s K=>wh vs.isEmpty (K [] s)) λa U ih vs s K=>List.rec (motive:=λU=>Prop) False (λb bs U=>g.e O J a s λk s1=>op (vS k) λk=>g.e O J b s1 λv s2=>ih bs s2 λkvs s3=>K ((k,v)::kvs) s3) vs
def goJ:List Expr->Str->St->(Str->St->Prop)->Prop:=List.rec (λout s K=>K out s) λa U ih out s K=>g.e O J a s λu s1=>op (vS u) λx=>out.length+x.length<=lim/\ih (out++x) s1 K
def aef(o:BoolOp):List Expr->St->(Bool->St->Prop)->Prop:=List.rec (λs K=>K (o==.And) s) λa U ih s K=>g.t O J a s λt s1=>bif t==(o==.Or)then K t s1 else ih s1 K
def I5:List Stmt->Loc->St->(Fl->Loc->St->Prop)->Prop:=List.rec (λJ s K=>K .next J s) λa U ih J s K=>g.x O J a s λfl eE s1=>bif isNext fl then ih eE s1 K else K fl eE s1
def JT(u:V)(s:St)(K:Bool->St->Prop):Prop:=
 bif isNone u then K false s else alt (vB u) (λb=>K b s)<|alt (vI u) (λi=>K (i !=0) s)<|alt (vS u) (λx=>x.length<=lim/\K (x.length !=0) s) <|
 op (vR u) λp=>rd p s λU o s1=>alt (oL o) (λxs=>xs.length<=lim/\K (!xs.isEmpty) s1)<|op (oD o) λxs=>xs.length<=lim/\K (!xs.isEmpty) s1
def goB(o:BoolOp):List Expr->St->(V->St->Prop)->Prop:=List.rec (λU U=>False) λa r ih s K=>g.e O J a s λu s1=>bif r.isEmpty then K u s1 else JT u s1 λb s2=>dec b s2 λb s3=>bif b==(o==.Or)then K u s3 else ih s3 K
def goO(a:Option Expr)(s:St)(K:Option Int->St->Prop):Prop:=a.elim (K none s) λa=>g.e O J a s λu s1=>op (vI u) λi=>K (some i) s1
noncomputable def isAdd:Operator->Bool
 |.Add=>true
 |_=>false
def aaP(o:Operator)(u w:V)(s:St)(K:V->St->Prop):Prop:=
 bif isAdd o then
  alt (vS u) (λx=>op (vS w) λy=>x.length+y.length<=lim/\K (.s (x++y)) s) <|
  alt (vR u) (λp=>op (vR w) λq=>rd p s λU o1 s1=>rd q s1 λU o2 s2=>op (oL o1) λxs=>op (oL o2) λys=>xs.length+ys.length<=lim/\new (.l (xs++ys)) s2 K) <|
  op (Vn o u w) λv=>K v s
 else op (Vn o u w) λv=>K v s
def eqG(u w:V)(s:St)(K:Bool->St->Prop):Prop:=
 alt (vR u) (λp=>op (vR w) λq=>rd p s λU o1 s1=>rd q s1 λU o2 s2=>op (oL o1) λxs=>op (oL o2) λys=>wh ys.isEmpty (K xs.isEmpty s2))<|op (eqS u w) λb=>K b s
def inG(u w:V)(s:St)(K:Bool->St->Prop):Prop:=
 alt (vB u) (λb=>op (vR w) λp=>rd p s λU o s1=>op (oL o) λxs=>ask 5 (λt U=>t.bs) (boolsOf xs) s1 λl s2=>K (l.contains b) s2) <|
 op (vS u) λx=>alt (vS w) (λy=>K (Txt.contains y x) s)<|op (vR w) λp=>rd p s λU o s1=>
 alt (oS o) (λks=>K (ks.contains x) s1)<|alt (oD o) (λkvs=>K ((kvs.map (·.1)).contains x) s1)<|op (oL o) λxs=>ask 5 (λt U=>t.ss) (strsOf xs) s1 λl s2=>K (l.contains x) s2
def afy(o:CmpOp)(u w:V)(s:St)(K:Bool->St->Prop):Prop:=match o with
 |.Eq=>eqG u w s K
 |.NotEq=>eqG u w s λb=>K !b
 |.In=>inG u w s K
 |.NotIn=>inG u w s λb=>K !b
 |.Is=>wh (isNone w) (K (isNone u) s)
 |.IsNot=>wh (isNone w) (K (!isNone u) s)
 |_=>False
def aaI(a:Expr)(os:List CmpOp)(bs:List Expr)(s:St)(K:Bool->St->Prop):Prop:=one os λo=>one bs λb=>wh (!gA b) (g.e O J a s λu s1=>g.e O J b s1 λw s2=>afy o u w s2 K)
def aec(u w:V)(s:St)(K:V->St->Prop):Prop:=
 alt (vT u) (λxs=>op (vI w) λk=>ask 6 To.w (atIdx xs k) s K)<|op (vR u) λp=>rd p s λU o s1=>
 alt (oL o) (λxs=>op (vI w) λk=>ask 6 To.w (atIdx xs k) s1 K)<|op (oD o) λkvs=>op (vS w) λk=>ask 6 To.w (kvs.lookup k) s1 K
def acf(u:V)(lo hi st:Option Int)(s:St)(K:V->St->Prop):Prop:=
 alt (vS u) (λx=>wh st.isNone (x.length<=lim/\K (.s (Txt.slice x lo hi)) s))<|op (vR u) λp=>rd p s λU o s1=>
 op (oL o) λxs=>wh (decide (st≠some 0)) (xs.length<=lim/\new (.l (jN xs lo hi st)) s1 K)
def Un(name:Str)(p j:Nat)(o:dN)(s:St)(K:V->Prop)(P:Prop):Prop:=alt (oI o) (λC=>rj C.2 (j+1) s λo1=>op (Ay pe name p C.1 o1) K) P
def aiN(name:Str)(u:V)(s:St)(K:V->St->Prop):Prop:=
 op (vR u) λp=>rd p s λj o s1=>Un pe name p j o s1 (λv=>K v s1) (op (oL o) λU=>wh (name=="append") (K (.k .jh (.r p)) s1))
def afB(f:V)(xs:List V)(kw:List (Str×V))(s:St)(K:V->St->Prop):Prop:=
 known n 2 (f::xs) (λt q l l'=>CC pe t.c f xs kw l (t.v q) l') s λt q x s1=>K (t.v q x) s1
def apG(p j:Nat)(v:V)(s:St)(K:V->St->Prop):Prop:=rj p j s λo=>op (oL o) λxs=>xs.length<lim/\K .n (put j (.l (xs++[v])) s)
def joG(x:Str)(xs:List V)(s:St)(K:V->St->Prop):Prop:=one xs λw=>op (vR w) λp=>rd p s λU o s1=>op (oL o) λys=>ask 5 (λt U=>t.ss) (strsOf ys) s1 λl s2=>JoinOk x l=true/\K (.s (Txt.join x l)) s2
def Zk(name:Str)(p j:Nat)(xs:List V)(s:St)(K:V->St->Prop):Prop:=match xs with
 |[]=>bif name=="pop" then rj p j s λo=>op (oL o) λys=>pop 10 0 false ys s λt s1=>(ys=t.vs (vm s1.a)++[t.w (vm s1.a)]/\ys.length<=lim)/\K (t.w (vm s1.a)) (put j (.l (t.vs (vm s1.a))) s1)
  else wh (name=="sort") (rj p j s λo=>op (oL o) λys=>pop 7 0 false ys s λt s1=>jq ys (t.vs (vm s1.a))/\K .n (put j (.l (t.vs (vm s1.a))) s1))
 |[v]=>bif name=="append" then apG p j v s K
  else bif name=="extend" then op (vR v) λq=>rd q s λi o s1=>op (oL o) λzs=>rj p j s1 λo=>op (oL o) λys=>wh (!Nat.beq i j) (ys.length+zs.length<=lim/\K .n (put j (.l (ys++zs)) s1))
  else wh (name=="index") (op (vS v) λx=>rj p j s λo=>op (oL o) λys=>ask 5 (λt U=>t.ss) (strsOf ys) s λl s1=>(x∈l/\l.length<=1000)/\K (.i (l.idxOf x)) s1)
 |_=>False
def aaB(name:Str)(p j:Nat)(xs:List V)(s:St)(K:V->St->Prop):Prop:=match xs with
 |[]=>wh (name=="items") (rj p j s λo=>op (oD o) λU=>K (.w p) s)
 |[v]=>bif name=="get" then op (vS v) λk=>rj p j s λo=>op (oD o) λkvs=>ask 6 To.w (some ((kvs.lookup k).getD .n)) s K
  else wh (name=="update") (op (vR v) λq=>rd q s λi o s1=>op (oD o) λys=>rj p j s1 λo=>op (oD o) λkvs=>wh (!Nat.beq i j) (kvs.length+ys.length<=1000/\K .n (put j (.d (w5 kvs ys)) s1)))
 |[v,d]=>wh (name=="get") (op (vS v) λk=>rj p j s λo=>op (oD o) λkvs=>ask 6 To.w (some ((kvs.lookup k).getD d)) s K)
 |_=>False
def setG(name:Str)(p j:Nat)(xs:List V)(s:St)(K:V->St->Prop):Prop:=one xs λv=>wh (name=="add") (op (vS v) λk=>rj p j s λo=>op (oS o) λks=>ks.length<1000/\K .n (put j (.e (iG ks k)) s))
def XC(name x:Str)(xs:List V)(s:St)(K:V->St->Prop):Prop:=match xs with
 |[]=>wh (name=="strip") (x.length<=lim/\K (.s (Txt.strip x)) s)
 |[v]=>bif name=="join" then joG x [v] s K else wh (name=="split") (op (vS v) λy=>(y.length≠0/\x.length+2<=lim)/\ask 11 (λt U=>t.ss) (some (Txt.split x y)) s λl s1=>new (.l (l.map .s)) s1 K)
 |[v,w]=>wh (name=="rsplit") (op (vS v) λy=>op (vI w) λk=>(y.length≠0/\x.length+2<=lim/\0<=k/\k<1000)/\ask 11 (λt U=>t.ss) (some (Txt.rsplitMax x y k)) s λl s1=>new (.l (l.map .s)) s1 K)
 |_=>False
def acC(b:Bf)(xs:List V)(s:St)(K:V->St->Prop):Prop:=match xs with
 |[]=>wh (b.ty&&b.nm=="set") (new (.e []) s K)
 |[v]=>
  bif b.nm=="len" then wh (!b.ty) (alt (vS v) (λx=>x.length<=lim/\K (.i x.length) s)<|op (vR v) λp=>rd p s λU o s1=>
   alt (oL o) (λxs=>xs.length<=lim/\K (.i xs.length) s1)<|op (oD o) λxs=>xs.length<=lim/\K (.i xs.length) s1)
  else bif b.nm=="sorted" then wh (!b.ty) (
   alt (vW v) (λp=>rd p s λU o s1=>op (oD o) λkvs=>pop 7 0 false [] s1 λt s2=>jq (kvs.map λp=>.t [.s p.1,p.2]) (t.vs (vm s2.a))/\new (.l (t.vs (vm s2.a))) s2 K) <|
   op (vR v) λp=>rd p s λU o s1=>alt (oL o) (λys=>pop 7 0 false ys s1 λt s2=>jq ys (t.vs (vm s2.a))/\new (.l (t.vs (vm s2.a))) s2 K) <|
   op (oD o) λkvs=>pop 7 0 false [] s1 λt s2=>jq (kvs.map λp=>.s p.1) (t.vs (vm s2.a))/\new (.l (t.vs (vm s2.a))) s2 K)
  else bif b.nm=="chr" then wh (!b.ty) (op (vI v) λx=>(0<=x/\x<=1114111)/\K (.s ⟨#[x.toNat]⟩) s)
  else bif b.nm=="sum" then wh (!b.ty) (op (vR v) λp=>rd p s λU o s1=>op (oL o) λxs=>ask 6 To.w ((intsOf xs).map λl=>V.i l.sum) s1 K)
  else wh b.ty (bif b.nm=="str" then op (vI v) λi=>i.natAbs.log2<1920/\K (.s (toString i:String)) s
  else bif b.nm=="range" then op (vI v) λm=>(0<=m/\m<100000)/\K (.g m.toNat) s
  else bif b.nm=="list" then op (vW v) λp=>rd p s λU o s1=>op (oD o) λkvs=>kvs.length<=1000/\new (.l (kvs.map λp=>.t [.s p.1,p.2])) s1 K
  else bif b.nm=="dict" then op (vR v) λp=>rd p s λU o s1=>alt (oL o) (λys=>(ys.all I3=true/\ys.length<=1000)/\new (.d (iu ys)) s1 K)<|op (oD o) λkvs=>kvs.length<=lim/\new (.d kvs) s1 K
  else wh (b.nm=="set") (op (vR v) λp=>rd p s λU o s1=>op (oL o) λys=>ask 5 (λt U=>t.ss) (strsOf ys) s1 λl s2=>l.length<=100/\new (.e (fH [] l)) s2 K))
 |_=>False
def bmG(m:Pm)(y:V)(xs:List V)(s:St)(K:V->St->Prop):Prop:=
 wh m.obj (bif m.id=="list.append" then(one xs λv=>op (vR y) λp=>rd p s λj U s1=>apG p j v s1 K)
 else wh (m.id=="str.join") (op (vS y) λx=>joG x xs s K))
def Vg(f:V)(xs:List V)(kw:List (Str×V))(s:St)(K:V->St->Prop):Prop:=
 alt (vM f) (λm=>wh kw.isEmpty (bmG m.1 m.2 xs s K))<|alt (vF f) (λb=>wh kw.isEmpty (acC b xs s K))<|afB pe n f xs kw s K
set_option backward.match.sparseCases false in
noncomputable def fnm:Expr->Option (Option Expr×Str×Nat)
 |.Attribute o name p=>some (some o,name,p.endLine)
 |.Name x _=>some (none,x,0)
 |_=>none
def vV(args:List Expr)(kws:List Keyword)(s:St)(K:List V->List (Str×V)->St->Prop):Prop:=goL g O J args s λxs s1=>aeg g O J kws s1 λkw s2=>K xs kw s2
def adq(name:Str)(u:V)(args:List Expr)(kws:List Keyword)(s:St)(K:V->St->Prop):Prop:=
 wh (Nat.ble (args.length+kws.length) 25) <|
 alt (vS u) (λx=>wh ((strTab.lookup name).isSome) (vV g O J args kws s λxs kw s1=>wh kw.isEmpty (XC name x xs s1 K))) <|
 op (vR u) λp=>rd p s λj o s1=>Un pe name p j o s1 (λf=>wh (callable pe f) (vV g O J args kws s1 λxs kw s2=>Vg pe n f xs kw s2 K)) <|
 alt (oL o) (λU=>wh ((nW.lookup name).isSome) (vV g O J args kws s1 λxs kw s2=>wh kw.isEmpty (Zk name p j xs s2 K))) <|
 alt (oS o) (λU=>wh ((xu.lookup name).isSome) (vV g O J args kws s1 λxs kw s2=>wh kw.isEmpty (setG name p j xs s2 K))) <|
 op (oD o) λU=>wh ((n8.lookup name).isSome) (vV g O J args kws s1 λxs kw s2=>wh kw.isEmpty (aaB name p j xs s2 K))
def exG(e:Expr)(s:St)(K:V->St->Prop):Prop:=known n 3 [] (λt q l l'=>EE pe t.c O J e l (t.v q) l') s λt q x s1=>K (t.v q x) s1
def coG(e:Expr)(s:St)(K:V->St->Prop):Prop:=known n 4 [] (λt q l l'=>EC pe t.c O J e l (t.v q) l') s λt q x s1=>K (t.v q x) s1
set_option backward.match.sparseCases false in
noncomputable def ad6:Expr->Bool
 |.Lambda _ _ _ _=>true
 |_=>false
set_option backward.match.sparseCases false in
noncomputable def M8:Expr->Bool
 |.Subscript _ _ _=>true
 |_=>false
set_option backward.match.sparseCases false in
noncomputable def ad7:Expr->Bool
 |.ListComp _ _ _ _=>true
 |_=>false
def ZQ:List Keyword->Bool:=λl=>l.any λk=>ad6 k.value
noncomputable def ad4:UnaryOp->Bool
 |.USub=>true
 |_=>false
noncomputable def Wu:UnaryOp->Bool
 |.Not=>true
 |_=>false
set_option backward.match.sparseCases false in
noncomputable def acg:Expr->Option (Option Expr×Option Expr×Option Expr)
 |.Slice x y z _=>some (x,y,z)
 |_=>none
def ah2(u:V)(s:St)(K:V->St->Prop):Prop:=alt (vI u) (λi=>i.natAbs.log2<1920/\K (.s (toString i:String)) s)<|op (vS u) λx=>x.length<=lim/\K (.s x) s
set_option backward.match.sparseCases false in
def goE(e:Expr):St->(V->St->Prop)->Prop:=match e with
 |.Constant k _ _=>λs K=>op (cst k) λv=>K v s
 |.Name x _=>λs K=>op (look pe O J x) λv=>K v s
 |.BinOp a o b _=>λs K=>g.e O J a s λu s1=>g.e O J b s1 λw s2=>aaP o u w s2 K
 |.BoolOp o vs _=>λs K=>goB g O J o vs s K
 |.UnaryOp o a _=>λs K=>wh (ad4 o) (g.e O J a s λu s1=>op (vI u) λi=>K (.i (-i)) s1)
 |.IfExp c a b _=>λs K=>g.t O J c s λt s1=>g.e O J (bif t then a else b) s1 K
 |.Compare a os bs _=>λs K=>aaI g O J a os bs s λb s1=>K (.b b) s1
 |.List es _=>λs K=>goL g O J es s λxs s1=>wh (Nat.ble xs.length lim) (new (.l xs) s1 K)
 |.Tuple es _ _=>λs K=>goL g O J es s λxs s1=>wh (Nat.ble xs.length lim) (K (.t xs) s1)
 |.Dict ks vs _=>λs K=>bif ks.isEmpty&&vs.isEmpty then new (.d []) s K else wh (ks.all (·.isSome)&&(!ks.isEmpty&&Nat.ble ks.length 15)) (aeh g O J (ks.filterMap id) vs s λkvs s1=>(kvs.map (·.1)).Nodup/\new (.d kvs) s1 K)
 |.Subscript o i _=>λs K=>bif isName o==some "script" then exG pe n O J e s K else g.e O J o s λu s1=>
  alt (acg i) (λq=>goO g O J q.1 s1 λl s2=>goO g O J q.2.1 s2 λh s3=>goO g O J q.2.2 s3 λt j=>acf u l h t j K) (wh (!isSlice i) (g.e O J i s1 λw s2=>aec u w s2 K))
 |.Attribute o name _=>λs K=>wh (!jX o) (g.e O J o s λu s1=>aiN pe name u s1 K)
 |.Call f args kws p=>λs K=>bif ZQ kws then exG pe n O J e s K else wh (Nat.ble 1 n) <|
  alt (fnm f) (λq=>alt q.1 (λo=>wh (Nat.beq q.2.2 p.line&&!jX o) (g.e O J o s λu s1=>adq pe n g O J q.2.1 u args kws s1 K)) (op (look pe O J q.2.1) λf=>wh (callable pe f) (vV g O J args kws s λxs kw s2=>Vg pe n f xs kw s2 K))) (bif M8 f then g.e O J f s λu s1=>wh (callable pe u) (vV g O J args kws s1 λxs kw s2=>Vg pe n u xs kw s2 K)else exG pe n O J e s K)
 |.JoinedStr es _=>λs K=>wh (Nat.ble 2 es.length) (goJ g O J es cJ s λt s1=>K (.s t) s1)
 |.FormattedValue a c sp _=>λs K=>wh (c==-1&&sp.isNone) (g.e O J a s λu s1=>ah2 u s1 K)
 |.ListComp _ _ _ _=>coG pe n O J e
 |.DictComp _ _ _ _ _=>coG pe n O J e
 |_=>exG pe n O J e
set_option backward.match.sparseCases false in
def goT(e:Expr):St->(Bool->St->Prop)->Prop:=match e with
 |.UnaryOp o a _=>λs K=>wh (Wu o) (g.t O J a s λt s1=>K (!t) s1)
 |.BoolOp o vs _=>aef g O J o vs
 |.Compare a os bs _=>λs K=>aaI g O J a os bs s λb s1=>dec b s1 K
 |_=>λs K=>wh (plainT e) (g.e O J e s λu s1=>JT u s1 λb s2=>dec b s2 K)
set_option backward.match.sparseCases false in
def PL(t:Expr)(u:V)(s:St)(K:Loc->St->Prop):Prop:=match t with
 |.Name id _=>wh (own O id) (K (eO J id u) s)
 |.Tuple ts _ _=>alt (vT u) (λxs=>op (jl O ts xs J) λl=>K l s)<|op (vR u) λp=>rd p s λU o s1=>op (oL o) λxs=>op (jl O ts xs J) λl=>K l s1
 |.Attribute o name _=>g.e O J o s λw s1=>op (vR w) λp=>rd p s1 λj o s2=>op (oI o) λC=>wh ((pe.cls C.1 name).isSome) (rj C.2 (j+1) s2 λo1=>op (oN o1) λkvs=>wh (Nat.blt kvs.length 1000) (K J (put (j+1) (.n (eO kvs name u)) s2)))
 |.Subscript o i _=>g.e O J o s λw s1=>g.e O J i s1 λk s2=>op (vR w) λd=>rd d s2 λj o s3=>alt (oD o) (λkvs=>op (vS k) λk=>kvs.length<lim/\K J (put j (.d (eO kvs k u)) s3)) <|
  op (oL o) λxs=>op (vI k) λk=>wh (k==-1) ((xs≠[]/\xs.length<=lim)/\K J (put j (.l (xs.dropLast++[u])) s3))
 |_=>False
set_option backward.match.sparseCases false in
noncomputable def rQ:Expr->Option (List Expr)
 |.Tuple ts _ _=>some ts
 |_=>none
set_option backward.match.sparseCases false in
noncomputable def yh:Expr->Bool
 |.List _ _=>true
 |_=>false
def ac7(ts:List Expr)(a:Expr):Bool:=match ts with
 |[]=>true
 |t::ts=>bif yh t then false else(rQ t).elim true λus=>ts.isEmpty&&((rQ a).isNone||!(us.length==2||us.length==3))
def afL(ts:List Expr)(u:V)(s:St)(K:Loc->St->Prop):Prop:=match ts with
 |[t]=>wh (!isStar t) (PL pe g O J t u s K)
 |[t,t2]=>wh (!isStar t&&!isStar t2) (PL pe g O J t u s λeE s1=>PL pe g O eE t2 u s1 K)
 |_=>False
def afK(ts:List Expr)(a:Expr)(s:St)(K:Loc->St->Prop):Prop:=bif nY a then(one ts λt=>alt (isName t) (λy=>wh (own O y) (coG pe n O J a s λu s1=>K (eO J y u) s1)) (wh (ad7 a) (op (rQ t) λU=>coG pe n O J a s λu s1=>PL pe g O J t u s1 K)))
 else bif ac7 ts a then g.e O J a s λu s1=>afL pe g O J ts u s1 K
 else one ts λt=>op (rQ t) λus=>op (rQ a) λvs=>wh (Ck O us vs) (g.e O J a s λu s1=>op (vT u) λxs=>op (jl O us xs J) λl=>K l s1)
set_option backward.match.sparseCases false in
def afI(t:Expr)(o:Operator)(a:Expr)(s:St)(K:Loc->St->Prop):Prop:=match t with
 |.Name x _=>wh (own O x) (op (look pe O J x) λold=>wh (Bu old) (g.e O J a s λu s1=>aaP o old u s1 λv s2=>K (eO J x v) s2))
 |.Attribute w name _=>g.e O J w s λw s1=>op (vR w) λp=>rd p s1 λj ob s2=>Un pe name p j ob s2 (λold=>wh (Bu old) (g.e O J a s2 λu s3=>op (Vn o old u) λv=>rj p j s3 λob=>op (oI ob) λC=>wh ((pe.cls C.1 name).isSome) (rj C.2 (j+1) s3 λo1=>op (oN o1) λkvs=>wh (Nat.blt kvs.length 1000) (K J (put (j+1) (.n (eO kvs name v)) s3))))) False
 |_=>False
set_option backward.match.sparseCases false in
noncomputable def yx:Expr->Bool
 |.Slice none none none _=>true
 |_=>false
set_option backward.match.sparseCases false in
def afq:Expr->Option Expr
 |.Subscript o i _=>bif yx i then some o else none
 |_=>none
def afr(ts:List Expr)(s:St)(K:St->Prop):Prop:=one ts λt=>op (afq t) λo=>g.e O J o s λu s1=>op (vR u) λp=>rd p s1 λj ob s2=>op (oL ob) λxs=>xs.length<=lim/\K (put j (.l []) s2)
set_option backward.match.sparseCases false in
def aee(st:Stmt)(s:St)(K:Fl->Loc->St->Prop):Prop:=match st with
 |.Expr a _=>wh (!nY a) (g.e O J a s λU s1=>K .next J s1)
 |.Return a _=>a.elim (K (.ret .n) J s) λa=>g.e O J a s λu s1=>K (.ret u) J s1
 |.If a x y _=>g.t O J a s λt s1=>I5 g O (bif t then x else y) J s1 K
 |.Assign ts a _=>afK pe n g O J ts a s λl s1=>K .next l s1
 |.AugAssign t o a _=>afI pe g O J t o a s λl s1=>K .next l s1
 |.Delete ts _=>afr g O J ts s λs1=>K .next J s1
 |_=>known n 8 [] (λt q l l'=>XX pe t.c O J st l (t.fl q) (t.J q) l') s λt q x s1=>K (t.fl q x) (t.J q x) s1
def goX(st:Stmt)(s:St)(K:Fl->Loc->St->Prop):Prop:=peek s (known n 8 [] (λt q l l'=>XX pe t.c O J st l (t.fl q) (t.J q) l') s λt q x s1=>K (t.fl q x) (t.J q x) s1) (aee pe n g O J st s K)
end
noncomputable def goN(pe:Pe):Nat->Go:=Nat.rec ⟨λU U U U U=>False,λU U U U U=>False,λU U U U U=>False⟩ λn g=>⟨goE pe n g,goT g,goX pe n g⟩
end
section
variable {α:Type} {ob:dN} {P Q:Prop}
def jD{o:Option α}(sp:o.elim True R)(h:o=some x):R x:=by
 subst h;exact sp
def wg(sp:bif b then R else True)(h:b=true):R:=by
 subst h;exact sp
def jo{o:Option α}(h:alt o f P)(z:∀a,o=some a->f a->G)(b:P->G):G:=by
 induction o using Option.casesOn with
 |none=>exact b h
 |some a=>exact z a rfl h
def iI{o:Option α}{K:α->Prop}(h:op o K)(z:∀a,o=some a->K a->G):G:=by
 induction o using Option.casesOn with
 |none=>exact h.elim
 |some a=>exact z a rfl h
def fD(h:wh b P)(z:b=true->P->G):G:=by
 cases b
 exact h.elim
 exact z rfl h
def gM(h:bif b then P else Q)(z:b=true->P->G)(a:b=false->Q->G):G:=by
 cases b
 ·exact a rfl h
 ·exact z rfl h
def mG(h:(!b)=true):b=false:=by
 cases b
 rfl
 exact iC h
def VL(h:vS v=some x):v=.s x:=jD (R:=λx=>v=.s x) (by cases v <;> first|exact trivial|exact rfl) h
def JF(h:vI v=some x):v=.i x:=jD (R:=λx=>v=.i x) (by cases v <;> first|exact trivial|exact rfl) h
def VN(h:vR v=some x):v=.r x:=jD (R:=λx=>v=.r x) (by cases v <;> first|exact trivial|exact rfl) h
def VP(h:vB v=some x):v=.b x:=jD (R:=λx=>v=.b x) (by cases v <;> first|exact trivial|exact rfl) h
def JD(h:vT v=some x):v=.t x:=jD (R:=λx=>v=.t x) (by cases v <;> first|exact trivial|exact rfl) h
def abt(h:vM v=some x):v=.k x.1 x.2:=jD (R:=λx=>v=.k x.1 x.2) (by cases v <;> first|exact trivial|exact rfl) h
def abu(h:vF v=some x):v=.e x:=jD (R:=λx=>v=.e x) (by cases v <;> first|exact trivial|exact rfl) h
def VK(h:vW v=some x):v=.w x:=jD (R:=λx=>v=.w x) (by cases v <;> first|exact trivial|exact rfl) h
def Wf(h:oL ob=some x):ob=.l x:=jD (R:=λx=>ob=.l x) (by cases ob <;> first|exact trivial|exact rfl) h
def Wg(h:oD ob=some x):ob=.d x:=jD (R:=λx=>ob=.d x) (by cases ob <;> first|exact trivial|exact rfl) h
def Lf(h:oS ob=some x):ob=.e x:=jD (R:=λx=>ob=.e x) (by cases ob <;> first|exact trivial|exact rfl) h
def Lg(h:oI ob=some x):ob=.i x.1 x.2:=jD (R:=λx=>ob=.i x.1 x.2) (by cases ob <;> first|exact trivial|exact rfl) h
def Wd(h:oN ob=some x):ob=.n x:=jD (R:=λx=>ob=.n x) (by cases ob <;> first|exact trivial|exact rfl) h
def pR{K:Str->Prop}(h:op (vS v) K)(z:∀x,v=.s x->K x->G):G:=iI h λx e=>z x (VL e)
def yw{K:Int->Prop}(h:op (vI v) K)(z:∀x,v=.i x->K x->G):G:=iI h λx e=>z x (JF e)
def Z1{K:Nat->Prop}(h:op (vR v) K)(z:∀x,v=.r x->K x->G):G:=iI h λx e=>z x (VN e)
def getL{K:List V->Prop}(h:op (oL ob) K)(z:∀x,ob=.l x->K x->G):G:=iI h λx e=>z x (Wf e)
def getD{K:List (Str×V)->Prop}(h:op (oD ob) K)(z:∀x,ob=.d x->K x->G):G:=iI h λx e=>z x (Wg e)
def ahX{K:List Str->Prop}(h:op (oS ob) K)(z:∀x,ob=.e x->K x->G):G:=iI h λx e=>z x (Lf e)
def Jm{K:Str->Prop}(h:alt (vS v) K P)(z:∀x,v=.s x->K x->G)(a:P->G):G:=jo h (λx e=>z x (VL e)) a
def afO{K:Nat->Prop}(h:alt (vR v) K P)(z:∀x,v=.r x->K x->G)(a:P->G):G:=jo h (λx e=>z x (VN e)) a
def Jo{K:List V->Prop}(h:alt (oL ob) K P)(z:∀x,ob=.l x->K x->G)(a:P->G):G:=jo h (λx e=>z x (Wf e)) a
def afP{K:List (Str×V)->Prop}(h:alt (oD ob) K P)(z:∀x,ob=.d x->K x->G)(a:P->G):G:=jo h (λx e=>z x (Wg e)) a
def rE{xs:List α}(h:one xs f)(z:∀a,xs=[a]->f a->G):G:=by
 induction xs using List.casesOn with
 |nil=>exact h.elim
 |cons a r=>
  induction r using List.casesOn with
  |nil=>exact z a rfl h
  |cons _ _=>exact h.elim
end
section
variable {s:St} {p:Nat} {x:Bool} {vs:List V}
def rB{K:To->St->Prop}(h:pop k p x vs s K)(z:∀t r,K t ⟨s.a,s.r,r⟩->G):G:=by
 obtain⟨a,r,o⟩:=s
 induction o using List.casesOn with
 |nil=>lia
 |cons t o=>exact z t o h
def YF{P Q:Prop}(h:peek s P Q)(z:P->G)(b:Q->G):G:=by
 obtain⟨a,r,o⟩:=s
 induction o using List.casesOn with
 |nil=>lia
 |cons t o=>exact gM h (λU=>z) λU=>b
def CV{K:Nat->dN->St->Prop}(h:rd p s K)(b:Has H s.l)(z:∀j o r,H.f p=o->nth s.a j=some (p,o)->K j o ⟨s.a,s.r,r⟩->G):G:=
 rB h λt r h=>iI h λ⟨_,o⟩ e h=>by
  cases h.1;exact z _ _ _ (b.nth e) e h.2
def pI{K:dN->Prop}(h:rj p j s K)(b:Has H s.l)(z:∀o,H.f p=o->nth s.a j=some (p,o)->K o->G):G:=
 iI h λ⟨_,o⟩ e h=>by
  cases h.1;exact z _ (b.nth e) e h.2
def kE(h:new o s K)(b:Has H s.l)(z:∀s':St,Tp H s.l (H.alloc o) s'.l->K (.r H.n) s'->G):G:=
 z _ ((Tp.new b).to (by
  show(s.a++[(H.n,o)]++s.r).Perm _;rw[aQ];exact cG)) (h H.n)
def O7{K:Bool->St->Prop}(h:dec x s K)(z:∀r,K x ⟨s.a,s.r,r⟩->G):G:=by
 obtain⟨r,h⟩:=aaA h;exact z r h
def lO{f:To->Pl->α}{o:Option α}{K:α->St->Prop}(h:ask k f o s K)(z:∀v r,o=some v->K v ⟨s.a,s.r,r⟩->G):G:=by
 obtain⟨v,r,e,h⟩:=aaU h;exact z v r e h
def vq{K:Nat->Nat->dN->St->Prop}(h:op (vR v) λp=>rd p s (K p))(b:Has H s.l)(z:∀p j o r,v=.r p->H.f p=o->nth s.a j=some (p,o)->K p j o ⟨s.a,s.r,r⟩->G):G:=Z1 h λp e h=>CV h b λj o r=>z p j o r e
end
structure qw (pe:Pe) (cx:Cx) (n:Nat) (g:Go):Prop where
 P:eY pe cx
 e:∀{O J a s K H},g.e O J a s K->Has H s.l->Rz H s (λv H'=>GE cx n O J a H v H') K
 t:∀{O J a s K H},g.t O J a s K->Has H s.l->Rz H s (λv H'=>GT cx n O J a H v H') K
 x:∀{O J st s K H},g.x O J st s K->Has H s.l->Rz H s (λ(q:Fl×Loc) H'=>GX cx n O st J H q.1 q.2 H') (λ(q:Fl×Loc)=>K q.1 q.2)
section
variable {pe:Pe} {n:Nat} {g:Go} {s:St}
def DK(S:qw pe cx n g):∀{s K H},goL g O J es s K->Has H s.l->Rz H s (λxs H'=>GL cx n O J es H xs H') K:=by
 induction es with
 |nil=>exact λh b U k=>k _ _ _ wG (.refl b) h
 |cons a es ih=>exact λh b U k=>fD h λf h=>S.e h b _ λU U U d t1 k1=>ih k1 t1.has _ λU U U c t2 k2=>k _ _ _ (m7 (mG f) d c) (t1.trans t2) k2
def TY(S:qw pe cx n g):∀{s K H},aeg g O J es s K->Has H s.l->Rz H s (λxs H'=>Qu cx n O J es H xs H') K:=by
 induction es with
 |nil=>exact λh b U k=>k _ _ _ Aq (.refl b) h
 |cons a es ih=>
  obtain⟨arg,val,p⟩:=a;exact λh b U k=>iI h λx f h=>S.e h b _ λU U U d t1 k1=>ih k1 t1.has _ λU U U c t2 k2=>k _ _ _ (by cases f;exact ZD d c) (t1.trans t2) k2
theorem T3(S:qw pe cx n g){as:List Expr}:∀{vs s K H},aeh g O J as vs s K->Has H s.l->Rz H s (λxs H'=>GDP cx n O J (as.zip vs) H xs H'/\as.length=vs.length) K:=by
 induction as with
 |nil=>exact λh c U k=>fD h λh1 h=>by cases List.isEmpty_iff.mp h1;exact k _ _ _ ⟨aaz,rfl⟩ (.refl c) h
 |cons a as ih=>
  intro vs s K H h c _ k
  induction vs using List.casesOn with
  |nil=>exact h.elim
  |cons b bs=>exact S.e h c _ λU U U f t1 k1=>pR k1 λx m k1=>S.e k1 t1.has _ λU U U i t2 k2=>ih k2 t2.has _ λU U U d j k3=>k _ _ _ ⟨UL (m▸f) i d.1,congrArg (· + 1) d.2⟩ ((t1.trans t2).trans j) k3
theorem Jv{ks:List (Option Expr)}{vs:List Expr}(h:ks.all (·.isSome)=true)(hl:(ks.filterMap id).length=vs.length):(((ks.filterMap id).zip vs).map λe=>some e.1)=ks/\((ks.filterMap id).zip vs).map (·.2)=vs:=by
 have e:(ks.filterMap id).map some=ks:=by
  clear hl
  induction ks with
  |nil=>rfl
  |cons k ks ih=>
   rw[List.all_cons,Bool.and_eq_true]at h
   induction k using Option.casesOn with
   |none=>exact iC h.1
   |some k=>exact congrArg (some k::·) (ih h.2)
 refine⟨?_,List.map_snd_zip (Nat.le_of_eq hl.symm)⟩;have:(((ks.filterMap id).zip vs).map λe=>some e.1)=(((ks.filterMap id).zip vs).map (·.1)).map some:=by rw[aR];rfl
 rw[this,List.map_fst_zip (Nat.le_of_eq hl),e]
def ZV(S:qw pe cx n g):∀{out s K H},goJ g O J es out s K->Has H s.l->Rz H s (λx H'=>GJ cx n O J es out H x H') K:=by
 induction es with
 |nil=>exact λh b U k=>k _ _ _ ad2 (.refl b) h
 |cons a es ih=>exact λh b U k=>S.e h b _ λU U U d t1 k1=>pR k1 λx f k1=>ih k1.2 t1.has _ λU U U c t2 k2=>k _ _ _ (ZF (f▸d) k1.1 c) (t1.trans t2) k2
theorem TX(S:qw pe cx n g){o:BoolOp}:∀{s K H},aef g O J o es s K->Has H s.l->Rz H s (λx H'=>GTs cx n O J o es H x H') K:=by
 induction es with
 |nil=>exact λh b U k=>k _ _ _ (λU U U U U U C a=>by
  exact ak (a _ _ (dJ.refl _ C.inv))) (.refl b) h
 |cons a es ih=>exact λh b U k=>S.t h b _ λU U U c t1 k1=>gM k1 (λhc k1=>k _ _ _ (QJ c hc) t1 k1) λhc k1=>ih k1 t1.has _ λU U U d t2 k2=>k _ _ _ (abF c hc d) (t1.trans t2) k2
def GR(h:isNext fl=true):fl=.next:=wg (by cases fl <;> first|exact trivial|exact rfl) h
theorem yt(S:qw pe cx n g):∀{J s K H},I5 g O es J s K->Has H s.l->Rz H s (λ(q:Fl×Loc) H'=>vY cx n O es J H q.1 q.2 H') (λ(q:Fl×Loc)=>K q.1 q.2):=by
 induction es with
 |nil=>exact λ{J U U _} h b U k=>k (.next,J) _ _ jP (.refl b) h
 |cons a es ih=>exact λh b U k=>S.x h b _ λq U U c t1 k1=>gM k1 (λhf k1=>ih k1 t1.has _ λd U U e t2 k2=>k d _ _ (d7 (GR hf▸c) e) (t1.trans t2) k2) λhf k1=>k q _ _ (gW c hf) t1 k1
def JR{u:V}{K:Bool->St->Prop}(h:JT u s K)(f:Has H s.l)(k:∀b r,truth H u=some b->K b ⟨s.a,s.r,r⟩->G):G:=
 gM h (λg h=>k _ _ (by rw[qQ g];rfl) h) λU h=>
 jo h (λb hb h=>k _ _ (by rw[VP hb];rfl) h) λh=>
 jo h (λb hb h=>k _ _ (by rw[JF hb];rfl) h) λh=>
 Jm h (λb hb h=>k _ _ (hb▸if_pos h.1) h.2) λh=>
 vq h f λp U o U hp e U h=>
 have d:∀{b},w6 o=some b->truth H u=some b:=λh=>hp▸(congrArg w6 e).trans h
 Jo h (λU c h=>k _ _ (d (c▸if_pos h.1)) h.2) λh=>getD h λU c h=>k _ _ (d (c▸if_pos h.1)) h.2
theorem ZX(S:qw pe cx n g){o:BoolOp}:∀{s K H},goB g O J o es s K->Has H s.l->Rz H s (λx H'=>GBo cx n O J o es H x H') K:=by
 induction es with
 |nil=>exact λh=>h.elim
 |cons a es ih=>
  intro s K H h m _ k;refine S.e h m _ λu s1 U c t1 k1=>?_
  induction es using List.casesOn with
  |nil=>exact k _ _ _ ((λU U U U U U U C b=>c C b)) t1 k1
  |cons b es=>exact JR (show JT u s1 λx s2=>dec x s2 λx s3=>bif x==(o==.Or)then K u s3 else goB g O J o (b::es) s3 K from k1) t1.has λU r d k2=>O7 k2 λr k3=>gM k3 (λhc k3=>k _ ⟨s1.a,s1.r,r⟩ _ (aaQ S.P c d hc) t1 k3) λhc k3=>ih k3 t1.has _ λU U U j f i=>k _ _ _ (aiM S.P c d hc j) (t1.trans f) i
def DG(S:qw pe cx n g){K:Option Int->St->Prop}(h:goO g O J a s K)(b:Has H s.l):Rz H s (λx H'=>GO cx n O J a H x H') K:=λU k=>by
 induction a using Option.casesOn with
 |none=>exact k _ _ _ oW (.refl b) h
 |some a=>exact S.e h b _ λU U U c t1 k1=>yw k1 λx d k1=>k _ _ _ (xQ (d▸c)) t1 k1
theorem Hl{o:Operator}{u w:V}(h:aaP o u w s K)(a:Has H s.l):Rz H s (λv H'=>tB H o u w v H') K:=λG k=>
 have old:=λh=>iI h λU g h=>k _ _ _ (afH g) (.refl a) h
 gM h (λd h=>
  have ho:o=.Add:=by cases o <;> first|rfl|exact iC d
  Jm h (λx j h=>pR h λy e h=>k _ _ _ (ho▸j▸e▸.afR h.1) (.refl a) h.2) λh=>
  afO h (λp hp h=>Z1 h λq f h=>CV h a λU U U b U h=>CV h a λU U U i U h=>getL h λU h1 h=>getL h λU c h=>kE h.2 a λs1 t1 k1=>k _ s1 _ (ho▸hp▸f▸.iG (b.trans h1) (i.trans c) h.1 rfl) t1 k1) old) λU=>old
def WR{u w:V}{K:Bool->St->Prop}(h:eqG u w s K)(c:Has H s.l)(k:∀b r,Qv H u w b->K b ⟨s.a,s.r,r⟩->G):G:=
 afO h (λp hp h=>Z1 h λq f h=>CV h c λU U U d U h=>CV h c λU U U g U h=>getL h λU h1 h=>getL h λU e h=>fD h λi h=>k _ _ (hp▸f▸.adP (d.trans h1) (g.trans (e.trans (congrArg dN.l (List.isEmpty_iff.mp i))))) h) λh=>iI h λU hb h=>k _ _ (aao hb) h
def Ww{u w:V}{K:Bool->St->Prop}(h:inG u w s K)(g:Has H s.l)(k:∀b r,Jq H u w b->K b ⟨s.a,s.r,r⟩->G):G:=
 jo h (λx c h=>vq h g λU U U U d e U h=>getL h λU h1 h=>lO h λU U f h=>k _ _ (VP c▸d▸.adT (e.trans h1) f) h) λh=>
 pR h λx c h=>Jm h (λy i h=>k _ _ (c▸i▸.str) h) λh=>
 vq h g λU U U U d e U h=>jo h (λU hk h=>k _ _ (c▸d▸.set (e.trans (Lf hk))) h) λh=>
 afP h (λU hk h=>k _ _ (c▸d▸.dict (e.trans hk)) h) λh=>getL h λU h1 h=>lO h λU U f h=>k _ _ (c▸d▸.ahB (e.trans h1) f) h
def aaH{o:CmpOp}{u w:V}{K:Bool->St->Prop}(h:afy o u w s K)(c:Has H s.l)(k:∀b r,Fe H o u w b->K b ⟨s.a,s.r,r⟩->G):G:=by
 cases o with
 |Eq=>exact WR h c λU U e=>k _ _ (.eq e)
 |NotEq=>exact WR h c λU U e=>k _ _ (.ne e)
 |In=>exact Ww h c λU U e=>k _ _ (.inn e)
 |NotIn=>exact Ww () c λU U e=>k _ _ (.nin e)
 |Is=>exact fD h λh1=>k _ _ (qQ h1▸.is)
 |IsNot=>exact fD h λh1=>k _ _ (qQ h1▸.ahL)
 |_=>exact False.elim h
def ZL{u w:V}(h:aec u w s K)(f:Has H s.l)(k:∀v r,index H u w=some v->K v ⟨s.a,s.r,r⟩->G):G:=
 jo h (λx g h=>yw h λi hi h=>lO h λU U b=>k _ _ (by rw[JD g,hi];exact b)) λh=>
 vq h f λq U o U d e U h=>
 have c:index H u w=Nq o w:=by rw[d];exact congrArg (Nq · w) e
 Jo h (λU h1 h=>yw h λi hi h=>lO h λU U b=>k _ _ (by rw[c,h1,hi];exact b)) λh=>getD h λU h1 h=>pR h λi hi h=>lO h λU U b=>k _ _ (by rw[c,h1,hi];exact b)
def Q9{u:V}{lo st:Option Int}(h:acf u lo hi st s K)(a:Has H s.l):Rz H s (λv H'=>W5 pe H u lo hi st v H') K:=λU k=>
 Jm h (λx d h=>fD h λh1 h=>k _ _ _ (d▸Option.isNone_iff_eq_none.mp h1▸.str h.1) (.refl a) h.2) λh=>
 vq h a λU U U U b e U h=>getL h λU h1 h=>fD h λc h=>kE h.2 a λs1 t1 k1=>k _ s1 _ (b▸.list (e.trans h1) (of_decide_eq_true c) h.1 rfl) t1 k1
end
section
variable {pe:Pe} {n:Nat} {g:Go} {s:St}
def mQ.at(P:eY pe cx){m:Pm}{y:V}(h:mQ H m y xs v H')(a:0<n):gV cx n (.k m y) xs [] H v H':=by
 cases n with
 |zero=>exact absurd a (Nat.lt_irrefl _)
 |succ n=>exact Yk P h
def mR.at(P:eY pe cx){b:Bf}(h:mR pe H b xs v H')(a:0<n):gV cx n (.e b) xs [] H v H':=by
 cases n with
 |zero=>exact absurd a (Nat.lt_irrefl _)
 |succ n=>exact agL P h
def sI(P:eY pe cx){vs:List V}{K:To->Pl->Pl->St->Prop}{R:To->Pl->Cx->Nat->Pl->Hp->Hp->Prop}(h:known n k vs Z s K)(b:Has H s.l)(hz:∀{t q l l'},Z t q l l'->ZZ pe (λcx x=>R t q cx t.c x) l l')(d:∀{t q x H H'},t.c<=n->R t q cx t.c x H H'->R t q cx n x H H')(z:∀t x s' H',R t (vm s.a) cx n x H H'->Tp H s.l H' s'.l->K t (vm s.a) x s'->G):G:=
 rB h λt r h=>fD h λh1 h=>by
  have p1:s.l.Perm ((sel t.js s.a 0).1++s.r++(sel t.js s.a 0).2):=(((tR (js:=t.js) (l:=s.a) (i:=0)).1.append_right s.r).symm).trans (by
   rw[aQ,aQ];exact List.perm_append_comm.append_left _)
  obtain⟨x,H',e,q⟩:=ZZ.frame (hz h.1) P H (b.to p1.symm);refine z t x _ H' (d (bO h1) e) ((q.of p1).to ?_) (h.2 x);show(Zb t.js s.a 0 (t.a _ x)++t.r _ x).Perm (t.a _ x++t.r _ x++(sel t.js s.a 0).2);refine(Ls.append_right _).trans ?_;rw[aQ,aQ];exact List.perm_append_comm.append_left _
def Vk(P:eY pe cx)(h:afB pe n f xs kw s K)(a:Has H s.l):Rz H s (λv H'=>gV cx n f xs kw H v H') K:=λU k=>sI P h a (R:=λt q cx m x H H'=>gV cx m f xs kw H (t.v q x) H') id (Di ·) λU U U U e=>k _ _ _ e
def aal(P:eY pe cx)(h:exG pe n O J a s K)(b:Has H s.l):Rz H s (λv H'=>GE cx n O J a H v H') K:=λU k=>sI P h b (R:=λt q cx m x H H'=>GE cx m O J a H (t.v q x) H') id (ud ·) λU U U U e=>k _ _ _ e
def Ei(P:eY pe cx)(h:coG pe n O J a s K)(b:Has H s.l):Rz H s (λv H'=>GEC cx n O J a H v H') K:=λU k=>sI P h b (R:=λt q cx m x H H'=>GEC cx m O J a H (t.v q x) H') id (Sg ·) λU U U U e=>k _ _ _ e
def Qa(h:apG p j v s K)(a:Has H s.l):Rz H s (λw H'=>mQ H .jh (.r p) [v] w H') K:=λU k=>pI h a λU e b h=>getL h λU h1 h=>k _ _ _ (.wA (e.trans h1) h.1 rfl) (kh a b) h.2
def M5(h:joG x xs s K)(b:Has H s.l):Rz H s (λw H'=>mQ H .tG (.s x) xs w H') K:=λU k=>
 rE h λw f h=>vq h b λU U U U c e U h=>getL h λU h1 h=>lO h λU r d h=>k _ ⟨s.a,s.r,r⟩ _ (f▸c▸.Ry (e.trans h1) d h.1) (.refl b) h.2
theorem Lh{x y:dN}(h1:nth a i=some (p,x))(c:nth a j=some (q,y))(b:i≠j)(d:(ks a).Nodup):p≠q:=by
 induction a generalizing i j with
 |nil=>exact gB h1
 |cons z a ih=>
  obtain⟨hz,d⟩:=List.nodup_cons.mp d;have key:∀{k r w},nth a k=some (r,w)->r∈ks a:=λh=>by
   obtain⟨t,f,_⟩:=CZ h;exact List.mem_map.mpr ⟨_,f.mem_iff.mpr cQ,rfl⟩
  cases i with
  |zero=>
   cases j with
   |zero=>exact absurd rfl b
   |succ j=>cases h1;exact λe=>hz (e▸key c)
  |succ i=>
   cases j with
   |zero=>cases c;exact λe=>hz (e▸key h1)
   |succ j=>exact ih h1 c (λe=>b (congrArg _ e)) d
def Has.ndA(b:Has H s.l):(ks s.a).Nodup:=(b.sub (cY ..)).nd
def nbe(h:(!Nat.beq i j)=true):i≠j:=λe=>by
 subst e;rw[Nat.beq_refl]at h;exact iC h
abbrev Bi(H:Hp)(tab:List (Str×Pm))(name:Str)(u:V)(xs:List V)(w:V)(H':Hp):Prop:=∃m,tab.lookup name=some m/\mQ H m u xs w H'
def Bi.mk{m:Pm}{u w:V}(h:(name==nm)=true)(a:tab.lookup nm=some m)(q:mQ H m u xs w H'):Bi H tab name u xs w H':=⟨m,eq_of_beq h▸a,q⟩
theorem Sy(h:Zk name p j xs s K)(b:Has H s.l):Rz H s (λw H'=>Bi H nW name (.r p) xs w H') K:=λU k=>by
 cases xs with
 |nil=>
   exact gM h (λc h=>pI h b λU e f h=>getL h λys h1 h=>rB h λt r h=>k _ _ _ (.mk c rfl (.Yt (e.trans h1) (by rw[h.1.1];simp) h.1.2 rfl)) (by
   rw[show ys.dropLast=t.vs _ by rw[h.1.1];exact List.dropLast_concat];exact kh b f) h.2) λU h=>fD h λc h=>pI h b λU e f h=>getL h λys h1 h=>rB h λt r h=>k _ (put j _ ⟨s.a,s.r,r⟩) _ (.mk c rfl (.Rw (e.trans h1) h.1 rfl)) (kh b f) h.2
 |cons v xs=>
  cases xs with
  |cons _ _=>exact h.elim
  |nil=>
   exact gM h (λc h=>Qa h b _ λU U U e=>k _ _ _ (.mk c rfl e)) λU h=>
    gM h (λc h=>vq h b λq U U r n e f h=>getL h λzs h1 h=>pI h b λU o d h=>getL h λys g h=>fD h λi h=>k _ (put j _ ⟨s.a,s.r,r⟩) _ (.mk c rfl (n▸.H9 (o.trans g) (e.trans h1) (λx=>Lh f d (nbe i) b.ndA x.symm) h.1 rfl)) (kh b d) h.2) λU h=>
    fD h λc h=>pR h λx u h=>pI h b λU e U h=>getL h λU h1 h=>lO h λU r m h=>k _ ⟨s.a,s.r,r⟩ _ (.mk c rfl (u▸.KZ (e.trans h1) m h.1)) (.refl b) h.2
def Rj(h:setG name p j xs s K)(a:Has H s.l):Rz H s (λw H'=>Bi H xu name (.r p) xs w H') K:=λU k=>
 rE h λU b h=>fD h λf h=>pR h λx d h=>pI h a λU e c h=>ahX h λU h1 h=>k _ _ _ (b▸.mk f rfl (d▸.Rx (e.trans h1) h.1 rfl)) (kh a c) h.2
theorem U8(h:aaB name p j xs s K)(b:Has H s.l):Rz H s (λw H'=>Bi H n8 name (.r p) xs w H') K:=λU k=>by
 cases xs with
 |nil=>exact fD h λc h=>pI h b λU e U h=>getD h λU h1 h=>k _ _ _ (.mk c rfl (.zQ (e.trans h1))) (.refl b) h
 |cons v xs=>
  cases xs with
  |nil=>
   exact gM h (λc h=>pR h λx m h=>pI h b λU e U h=>getD h λU h1 h=>lO h λU r g h=>k _ ⟨s.a,s.r,r⟩ _ (.mk c rfl (m▸bh g▸.Yu (e.trans h1))) (.refl b) h) λU h=>
    fD h λc h=>vq h b λq U U r o e t h=>getD h λzs h1 h=>pI h b λU u f h=>getD h λys i h=>fD h λn h=>k _ (put j _ ⟨s.a,s.r,r⟩) _ (.mk c rfl (o▸.H6 (u.trans i) (e.trans h1) (λx=>Lh t f (nbe n) b.ndA x.symm) h.1 rfl)) (kh b f) h.2
  |cons d xs=>
   cases xs with
   |cons _ _=>exact h.elim
   |nil=>exact fD h λc h=>pR h λx m h=>pI h b λU e U h=>getD h λU h1 h=>lO h λU r g h=>k _ ⟨s.a,s.r,r⟩ _ (.mk c rfl (m▸bh g▸.RB (e.trans h1))) (.refl b) h
theorem Q6(h:XC name x xs s K)(b:Has H s.l):Rz H s (λw H'=>Bi H strTab name (.s x) xs w H') K:=λU k=>by
 cases xs with
 |nil=>exact fD h λa h=>k _ _ _ (.mk a rfl (.KY h.1)) (.refl b) h.2
 |cons v xs=>
  cases xs with
  |nil=>
   exact gM h (λa h=>M5 h b _ λU U U e=>k _ _ _ (.mk a rfl e)) λU h=>
    fD h λa h=>pR h λy f h=>lO h.2 λU r hl c=>kE c b λs1 t1 k1=>k _ s1 _ (.mk a rfl (f▸bh hl▸.H7 h.1 rfl)) t1 k1
  |cons d xs=>
   cases xs with
   |cons _ _=>exact h.elim
   |nil=>exact fD h λa h=>pR h λx g h=>yw h λi hi h=>lO h.2 λU r hl c=>kE c b λs1 t1 k1=>k _ s1 _ (.mk a rfl (g▸hi▸bh hl▸.H8 h.1 rfl)) t1 k1
end
def Bf.eqv{b c:Bf}(h1:b.ty=c.ty)(a:(b.nm==c.nm)=true):b=c:=by
 cases b;cases c;cases h1;cases(eq_of_beq a);rfl
def Pm.eqv{b c:Pm}(h1:(b.id==c.id)=true)(a:b.obj=c.obj):b=c:=by
 cases b;cases c;cases(eq_of_beq h1);cases a;rfl
section
variable {pe:Pe} {n:Nat} {g:Go} {s:St}
theorem RJ{b:Bf}(h:acC b xs s K)(f:Has H s.l):Rz H s (λw H'=>mR pe H b xs w H') K:=λU k=>by
 cases xs with
 |nil=>exact fD h λd h=>have hb:=aZ d;kE h f λs1 t1 k1=>k _ s1 _ (Bf.eqv (c:=.set) hb.1 hb.2▸.Z4 rfl) t1 k1
 |cons v xs=>
  cases xs with
  |cons _ _=>exact h.elim
  |nil=>
   have q:∀{c:Bf} {w:V} {H':Hp},b.ty=c.ty->(b.nm==c.nm)=true->mR pe H c [v] w H'->mR pe H b [v] w H':=λh1 g z=>Bf.eqv h1 g▸z;refine gM h (λd h=>fD h λh1 h=>(Jm h (λx j h=>k _ _ _ (q (c:=.len) (mG h1) d (j▸.T9 h.1)) (.refl f) h.2) λh=>vq h f λU U U r i e U h=>Jo h (λU g h=>k _ ⟨s.a,s.r,r⟩ _ (q (c:=.len) (mG h1) d (i▸.Z5 (e.trans g) h.1)) (.refl f) h.2) λh=>getD h λU g h=>k _ ⟨s.a,s.r,r⟩ _ (q (c:=.len) (mG h1) d (i▸.Ua (e.trans g) h.1)) (.refl f) h.2)) λU h=>gM h (λd h=>fD h λh1 h=>(jo h (λp hp h=>CV h f λU U U e U h=>getD h λU g h=>rB h λU U h=>kE h.2 f λs1 t1 k1=>k _ s1 _ (q (c:=.sorted) (mG h1) d (VK hp▸.I6 (e.trans g) h.1 rfl)) t1 k1) λh=>vq h f λU U U U i e U h=>Jo h (λU g h=>rB h λU U h=>kE h.2 f λs1 t1 k1=>k _ s1 _ (q (c:=.sorted) (mG h1) d (i▸.DP (e.trans g) h.1 rfl)) t1 k1) λh=>getD h λU g h=>rB h λU U h=>kE h.2 f λs1 t1 k1=>k _ s1 _ (q (c:=.sorted) (mG h1) d (i▸.DQ (e.trans g) h.1 rfl)) t1 k1)) λU h=>gM h (λd h=>fD h λh1 h=>yw h λx j h=>k _ _ _ (q (c:=.chr) (mG h1) d (j▸.Z6 h.1)) (.refl f) h.2) λU h=>gM h (λd h=>fD h λh1 h=>vq h f λU U U r i e U h=>getL h λU g h=>lO h λU r m h=>?_) λU h=>fD h λh1 h=>gM h (λd h=>yw h λx j h=>k _ _ _ (q (c:=.str) h1 d (j▸.T6 h.1)) (.refl f) h.2) λU h=>gM h (λd h=>yw h λx j h=>k _ _ _ (q (c:=.range) h1 d (j▸.NZ h.1)) (.refl f) h.2) λU h=>gM h (λd h=>iI h λp hp h=>CV h f λU U U e U h=>getD h λU g h=>kE h.2 f λs1 t1 k1=>k _ s1 _ (q (c:=.list) h1 d (VK hp▸.N6 (e.trans g) h.1 rfl)) t1 k1) λU h=>gM h (λd h=>vq h f λU U U r i e U h=>Jo h (λU g h=>kE h.2 f λs1 t1 k1=>k _ s1 _ (q (c:=.dict) h1 d (i▸.N7 (e.trans g) h.1.1 h.1.2 rfl)) t1 k1) λh=>getD h λU g h=>kE h.2 f λs1 t1 k1=>k _ s1 _ (q (c:=.dict) h1 d (i▸.Ub (e.trans g) h.1 rfl)) t1 k1) λU h=>fD h λd h=>vq h f λU U U r i e U h=>getL h λU g h=>lO h λU r n h=>kE h.2 f λs1 t1 k1=>k _ s1 _ (q (c:=.set) h1 d (i▸.T8 (e.trans g) n h.1 rfl)) t1 k1
   obtain⟨l,hl,rfl⟩:=Option.map_eq_some_iff.mp m;exact k _ ⟨s.a,s.r,r⟩ _ (q (c:=.sum) (mG h1) d (i▸.Z2 (e.trans g) hl)) (.refl f) h
def aaO{m:Pm}{y:V}(h:bmG m y xs s K)(a:Has H s.l):Rz H s (λw H'=>mQ H m y xs w H') K:=λU k=>
 fD h λh1 h=>gM h (λd h=>rE h λv g h=>vq h a λU U U U f U U h=>Qa h a _ λU U U e=>k _ _ _ (Pm.eqv (c:=.jh) d h1▸g▸f▸e)) λU h=>
 fD h λd h=>pR h λU i h=>M5 h a _ λU U U e=>k _ _ _ (Pm.eqv (c:=.tG) d h1▸i▸e)
def yI(P:eY pe cx)(c:0<n)(h:Vg pe n f xs kw s K)(a:Has H s.l):Rz H s (λv H'=>gV cx n f xs kw H v H') K:=λU k=>
 jo h (λU b h=>fD h λh1 h=>aaO h a _ λU U U e=>k _ _ _ (abt b▸List.isEmpty_iff.mp h1▸e.at P c)) λh=>
 jo h (λU b h=>fD h λh1 h=>RJ h a _ λU U U e=>k _ _ _ (abu b▸List.isEmpty_iff.mp h1▸e.at P c)) λh=>Vk P h a _ k
def Ea{K:V->Prop}{P:Prop}(h:Un pe name p j o s K P)(d:Has H s.l)(e:H.f p=o)(z:∀v,fld pe H name (.r p)=some v->attr pe H name (.r p)=some v->K v->G)(c:P->G):G:=
 jo h (λC g h=>pI h d λo1 a U h=>iI h λv b h=>by
  have e:=e.trans (Lg g);refine z v ?_ ?_ h
  show Um pe H name p (H.f p)=_;rw[e];show Ay pe name p C.1 (H.f C.2)=_;rw[a];exact b
  show wV pe H name p (H.f p)=_;rw[e];show Ay pe name p C.1 (H.f C.2)=_;rw[a];exact b) c
def Es(S:qw pe cx n g){args:List Expr}{K:List V->List (Str×V)->St->Prop}(h:vV g O J args kws s K)(a:Has H s.l)(k:∀xs kw s' H1 H',GL cx n O J args H xs H1->Qu cx n O J kws H1 kw H'->Tp H s.l H' s'.l->K xs kw s'->G):G:=
 DK S h a _ λU U U c t1 k1=>TY S k1 t1.has _ λU U U b t2 k2=>k _ _ _ _ _ c b (t1.trans t2) k2
theorem Sq(S:qw pe cx n g)(y:0<n){u:V}{args:List Expr}{o:Expr}{H0:Hp}(h:adq pe n g O J name u args kws s K)(d:Has H s.l)(hp:ap.endLine=p.line) (F:jX o=false) (x3:GE cx n O J o H0 u H):Rz H s (λv H'=>GE cx (n+1) O J (.Call (.Attribute o name ap) args kws p) H0 v H') K:=λG k=>
 fD h λhl h=>
 have fin:∀{f:V} {r} {P:List V->List (Str×V)->St->Prop},attr pe H name u=some f->callable pe f=true->vV g O J args kws ⟨s.a,s.r,r⟩ P->(∀{xs kw} {s2:St} {H2},P xs kw s2->Has H2 s2.l->Rz H2 s2 _ K)->G:=λB hc C hk=>Es S C d λU U U U U A b t2 k2=>hk k2 t2.has _ λU U U D I k3=>k _ _ _ (yH S.P hp F (bO hl) x3 B hc A b D) (t2.trans I) k3
 have i:∀{tab:List (Str×Pm)} {Z:Str->V->List V->St->(V->St->Prop)->Prop} {r},wh (tab.lookup name).isSome (vV g O J args kws ⟨s.a,s.r,r⟩ λxs kw s2=>wh kw.isEmpty _)->(∀{m},tab.lookup name=some m->attr pe H name u=some _)->(∀{xs} {s2:St} {H2},Z name u xs s2 K->Has H2 s2.l->Rz H2 s2 (λw H'=>Bi H2 tab name u xs w H') K)->G:=λh L hz=>fD h λh1 h=>by
  obtain⟨m,e⟩:=Option.isSome_iff_exists.mp h1;exact fin (f:=.k m u) (L e) rfl h λk d U k2=>fD k λh0 k=>hz k d _ λ_ _ _ ⟨m2,b,q⟩=>k2 _ _ _ (List.isEmpty_iff.mp h0▸bh (e.symm.trans b)▸q.at S.P y)
 Jm h (λx c t=>by
  subst c;exact i (Z:=λname U xs s K=>XC name x xs s K) t (λe=>by show(strTab.lookup name).map _=_;rw[e];rfl) λk z=>Q6 k z) λh=>
 vq h d λq j U r E e U t=>by
  subst E;exact Ea t d e (λf U hf h=>fD h λhc h=>fin hf hc h λk z=>yI S.P y k z) λh=>
   Jo h (λx c h=>i (Z:=λname U xs s K=>Zk name q j xs s K) h (λb=>attr_list (e.trans c) b) λk z=>Sy k z) λh=>
   jo h (λx c h=>i (Z:=λname U xs s K=>setG name q j xs s K) h (λb=>(by
    show wV _ _ _ _ (H.f _)=_;rw[(e.trans (Lf c))];show(xu.lookup _).map _=_;rw[b];rfl)) λk z=>Rj k z) λh=>
   getD h λx c h=>i (Z:=λname U xs s K=>aaB name q j xs s K) h (λb=>wU (e.trans c) b) λk z=>U8 k z
end
section
variable {pe:Pe} {n:Nat} {g:Go} {s:St}
def Pg(S:qw pe cx n g){os:List CmpOp}{K:Bool->St->Prop}(h:aaI g O J a os bs s K)(c:Has H s.l)(k:∀o b u w t s' H1 H',os=[o]->bs=[b]->gA b=false->GE cx n O J a H u H1->GE cx n O J b H1 w H'->Fe H' o u w t->Tp H s.l H' s'.l->K t s'->G):G:=
 rE h λU ho h=>rE h λU hb h=>fD h λh1 h=>S.e h c _ λU U U f t1 k1=>S.e k1 t1.has _ λU s2 U d t2 k2=>aaH k2 t2.has λU r i k3=>k _ _ _ _ _ ⟨s2.a,s2.r,r⟩ _ _ ho hb (mG h1) f d i (t1.trans t2) k3
def aad(h:fnm f=some q):(∃o p,f=.Attribute o q.2.1 p/\q.1=some o/\q.2.2=p.endLine)\/(∃p,f=.Name q.2.1 p/\q.1=none):=
 jD (R:=λq=>(∃o p,f=.Attribute o q.2.1 p/\q.1=some o/\q.2.2=p.endLine)\/(∃p,f=.Name q.2.1 p/\q.1=none)) (by cases f <;> first|exact trivial|exact .inl ⟨_,_,rfl,rfl,rfl⟩|exact .inr ⟨_,rfl,rfl⟩) h
def Ra{i:Expr}(h:acg i=some q):∃p,i=.Slice q.1 q.2.1 q.2.2 p:=
 jD (R:=λq=>∃p,i=.Slice q.1 q.2.1 q.2.2 p) (by cases i <;> first|exact trivial|exact⟨_,rfl⟩) h
def Tn{o:UnaryOp}(h:ad4 o=true):o=.USub:=wg (by cases o <;> first|exact trivial|exact rfl) h
def Nb{o:UnaryOp}(h:Wu o=true):o=.Not:=wg (by cases o <;> first|exact trivial|exact rfl) h
def IV(h:M8 f=true):W6 λo i q=>f=.Subscript o i q:=wg (by cases f <;> first|exact trivial|exact⟨_,_,_,rfl⟩) h
def G4(S:qw pe cx n g)(h:exG pe n O J a s K)(b:Has H s.l):Rz H s (λv H'=>GE cx (n+1) O J a H v H') K:=λU k=>aal S.P h b _ λU U U e=>k _ _ _ (ud (cF n) e)
def W0(S:qw pe cx n g)(h:coG pe n O J a s K)(b:Has H s.l):Rz H s (λv H'=>GE cx (n+1) O J a H v H') K:=λU k=>Ei S.P h b _ λU U U e=>k _ _ _ (ud (cF n) e.1)
theorem U0(S:qw pe cx n g){ks:List (Option Expr)}{vs:List Expr}(h:goE pe n g O J (.Dict ks vs p) s K)(i:Has H s.l):Rz H s (λv H'=>GE cx (n+1) O J (.Dict ks vs p) H v H') K:=λU k=>
 gM h (λhc h=>have hb:=aZ hc;kE h i λs2 t2 k2=>k _ s2 _ (List.isEmpty_iff.mp hb.1▸List.isEmpty_iff.mp hb.2▸Uz rfl) t2 k2) λU h=>
 fD h λh1 h=>by
  obtain⟨h1,a⟩:=aZ h1;obtain⟨a,m⟩:=aZ a;refine T3 S h i _ λkvs s1 H1 b t1 k1=>kE k1.2 t1.has λs2 t2 k2=>k _ s2 _ ?_ (t1.trans t2) k2;obtain⟨c,j⟩:=Jv h1 b.2;have hz:=(aB _).symm.trans (congrArg List.length c)
  have d:=Uy (pos:=p) b.1 k1.1 (λq=>by
   rw[q]at hz;rw[List.length_eq_zero_iff.mp hz.symm]at a;exact iC a) (hz▸bO m) rfl
  rw[c,j]at d;exact d
theorem Q0(S:qw pe cx n g){o i:Expr}(h:goE pe n g O J (.Subscript o i p) s K)(m:Has H s.l):Rz H s (λv H'=>GE cx (n+1) O J (.Subscript o i p) H v H') K:=λU k=>
 gM h (λU h=>G4 S h m _ k) λU h=>S.e h m _ λU U U f t1 k1=>jo k1 (λq z k1=>DG S k1 t1.has _ λU U U c t2 k2=>DG S k2 t2.has _ λU U U b j k3=>DG S k3 j.has _ λU U U x d u=>Q9 u d.has _ λU U U w y t=>k _ _ _ (by obtain⟨p,rfl⟩:=Ra z;exact sY S.P f c b x w) ((((t1.trans t2).trans j).trans d).trans y) t) λk1=>
 fD k1 λU k1=>S.e k1 t1.has _ λU s2 U c t2 k2=>ZL k2 t2.has λU r b k3=>k _ ⟨s2.a,s2.r,r⟩ _ (afi S.P f c b) (t1.trans t2) k3
theorem aaR(S:qw pe cx n g){o:Expr}(h:goE pe n g O J (.Attribute o name p) s K)(d:Has H s.l):Rz H s (λv H'=>GE cx (n+1) O J (.Attribute o name p) H v H') K:=λU k=>
 fD h λh1 h=>S.e h d _ λU s1 U b t1 k1=>vq k1 t1.has λU U U r c e U h=>Ea h t1.has e (λU hf U h=>k _ ⟨s1.a,s1.r,r⟩ _ (OJ S.P (mG h1) b (c▸hf)) t1 h) λh=>getL h λU f h=>fD h λi h=>k _ ⟨s1.a,s1.r,r⟩ _ (eq_of_beq i▸UJ (mG h1) (c▸b) (e.trans f)) t1 h
theorem call_of(S:qw pe cx n g){args:List Expr}(h:goE pe n g O J (.Call f args kws p) s K)(c:Has H s.l):Rz H s (λv H'=>GE cx (n+1) O J (.Call f args kws p) H v H') K:=λU k=>
 gM h (λU h=>G4 S h c _ k) λU h=>fD h λj h=>have j:=bO j;jo h (λq w m=>by
  rcases aad w with⟨o,ap,rfl,h1,u⟩|⟨z,rfl,h1⟩
  rw[h1]at m;exact fD m λd h=>have hb:=aZ d;S.e h c _ λU U U a t1 k1=>Sq S j k1 t1.has (u▸Nat.eq_of_beq_eq_true hb.1) (mG hb.2) a _ λU U U b t2 k2=>k _ _ _ b (t1.trans t2) k2
  rw[h1]at m;exact iI m λU hf h=>fD h λd h=>Es S h c λU U U U U a b t2 k2=>yI S.P j k2 t2.has _ λU U U r t k3=>k _ _ _ (G6 S.P hf d a b r) (t2.trans t) k3) λh=>
 gM h (λy h=>S.e h c _ λU U U a t1 k1=>fD k1 λd k1=>Es S k1 t1.has λU U U U U b r t2 k2=>yI S.P j k2 t2.has _ λU U U x t k3=>k _ _ _ (by obtain⟨o,i,q,rfl⟩:=IV y;exact UG S.P a d b r x) ((t1.trans t2).trans t) k3) λU h=>G4 S h c _ k
theorem ZW(S:qw pe cx n g)(h:goE pe n g O J a s K)(m:Has H s.l):Rz H s (λv H'=>GE cx (n+1) O J a H v H') K:=λU k=>by
 induction a using Expr.casesOn with
 |Constant c j p=>exact iI h λU u h=>k _ s H (n7 u) (.refl m) h
 |Name x p=>exact iI h λU u h=>k _ s H (iJ S.P u) (.refl m) h
 |BinOp a o b p=>exact S.e h m _ λU U U d t1 k1=>S.e k1 t1.has _ λU U U q t2 k2=>Hl k2 t2.has _ λU U U r y k3=>k _ _ _ (WX d q r) ((t1.trans t2).trans y) k3
 |BoolOp o vs p=>exact ZX S h m _ λU U U d=>k _ _ _ ((λU U U U U U C a=>by
  exact d C.low a))
 |UnaryOp o a p=>exact fD h λh1 h=>S.e h m _ λU U U d t1 k1=>yw k1 λU hi k2=>k _ _ _ (Tn h1▸WW (hi▸d)) t1 k2
 |IfExp c a b p=>exact S.t h m _ λU U U d t1 k1=>S.e k1 t1.has _ λU U U q t2 k2=>k _ _ _ ((λU U U U U U C g=>
  wpAny_IfExp (d C.low λU U m=>q (C.low.step m) λU U U e h=>g _ _ _ (m.trans e) h))) (t1.trans t2) k2
 |Compare a os bs p=>exact Pg S h m λU U U U U U U U ho hb w d q r t1 k1=>k _ _ _ (ho▸hb▸(λU U U U U U C h=>
  wpAny_Compare1 (d C.low λU U U m r1=>q (C.low.step m) λU U U c i=>r.go S.P.sys C.units c.inv (c.rep m.inv r1) i λs3 g=>h _ s3 _ ((m.trans c).trans g) (.bool _)) (xU w))) t1 k1
 |List es p=>exact DK S h m _ λU U U d t1 k1=>fD k1 λhl h=>kE h t1.has λs2 t2 k2=>k _ s2 _ (aau d (bO hl) rfl) (t1.trans t2) k2
 |Tuple es j p=>exact DK S h m _ λU U U d t1 k1=>fD k1 λhl h=>k _ _ _ (Uv d (bO hl)) t1 h
 |Dict ks vs p=>exact U0 S h m _ k
 |Subscript o i p=>exact Q0 S h m _ k
 |Attribute o name p=>exact aaR S h m _ k
 |Call f args kws p=>exact call_of S h m _ k
 |JoinedStr es p=>exact fD h λhl h=>ZV S h m _ λU U U d t1 k1=>k _ _ _ (by
   induction es using List.casesOn with
   |nil=>exact iC hl
   |cons a es=>
    induction es using List.casesOn with
    |nil=>exact iC hl
    |cons b es=>exact Oz d) t1 k1
 |FormattedValue a c sp p=>exact fD h λh1 h=>have hb:=aZ h1;S.e h m _ λU U U d t1 k1=>jo k1 (λU hi k1=>k _ _ _ (eq_of_beq hb.1▸Option.isNone_iff_eq_none.mp hb.2▸aav (JF hi▸d) k1.1) t1 k1.2) λk1=>pR k1 λU z k1=>k _ _ _ (eq_of_beq hb.1▸Option.isNone_iff_eq_none.mp hb.2▸afj (z▸d) k1.1) t1 k1.2
 |ListComp _ _ _ _=>exact W0 S h m _ k
 |DictComp _ _ _ _ _=>exact W0 S h m _ k
 |_=>exact G4 S h m _ k
theorem ZS(S:qw pe cx n g){K:Bool->St->Prop}(h:goT g O J a s K)(d:Has H s.l):Rz H s (λv H'=>GT cx (n+1) O J a H v H') K:=λG k=>by
 have gen:∀{a:Expr},(∀v s' H',GT cx _ O J a H v H'->Tp H s.l H' s'.l->K v s'->G)->wh _ (g.e O J a s λu s1=>JT u s1 λb s2=>dec b s2 K)->G:=λk h=>fD h λh1 h=>S.e h d _ λU s1 U c t1 k1=>JR k1 t1.has λU U f k2=>O7 k2 λr k3=>k _ ⟨s1.a,s1.r,r⟩ _ (V0 S.P h1 c f) t1 k3
 induction a using Expr.casesOn with
 |UnaryOp o a p=>exact fD h λh1 h=>S.t h d _ λU U U c t1 k1=>k _ _ _ (Nb h1▸VR c) t1 k1
 |BoolOp o vs p=>exact TX S h d _ λU U U c=>k _ _ _ ((λU U U U U U C a=>by
  exact c C.low a))
 |Compare a os bs p=>exact Pg S h d λU U U U U s1 U U ho hb j c f i t1 k1=>O7 k1 λr k3=>k _ ⟨s1.a,s1.r,r⟩ _ (ho▸hb▸abK S.P j c f i) t1 k3
 |_=>exact gen k h
def GD(e:H.f p=.i C d)(hc:(pe.cls C name).isSome=true):yq pe H name (.r p)=some d:=by
 obtain⟨m,a⟩:=Option.isSome_iff_exists.mp hc;show Ng pe name (H.f p)=_;rw[e];show(pe.cls C name).map _=_;rw[a];rfl
def Gd{u:V}(e:H.f d=.n kvs)(hl:Nat.blt kvs.length 1000=true):putN H d name u (H.f d)=some (H.put d (.n (eO kvs name u))):=e▸if_pos (bO hl)
theorem tu(S:qw pe cx n g){t:Expr}{u:V}{K:Loc->St->Prop}(h:PL pe g O J t u s K)(f:Has H s.l):Rz H s (λl H'=>GA cx n O t u J H l H') K:=λU k=>by
 induction t using Expr.casesOn with
 |Name id p=>exact fD h λh1 h=>k _ s H (vd h1) (.refl f) h
 |Tuple ts j p=>exact jo h (λU b h=>iI h λU hl h=>k _ s H (s8 (by rw[JD b];rfl) hl) (.refl f) h) λh=>vq h f λU U U r c e U h=>getL h λU b h=>iI h λU hl h=>k _ ⟨s.a,s.r,r⟩ H (s8 (c▸(by
  show Xj (H.f _)=_;rw[(e.trans b)];rfl)) hl) (.refl f) h
 |Attribute o name p=>exact S.e h f _ λU s1 U m t1 k1=>vq k1 t1.has λU j U r c e U k1=>iI k1 λU b k1=>fD k1 λh1 k1=>pI k1 t1.has λU q w k1=>iI k1 λkvs hk k1=>fD k1 λhl k1=>k J (put (j+1) _ ⟨s1.a,s1.r,r⟩) _ (aaY S.P (c▸m) (GD (e.trans (Lg b)) h1) (Gd (q.trans (Wd hk)) hl)) (t1.trans (kh t1.has w)) k1
 |Subscript o i p=>exact S.e h f _ λU U U m t1 k1=>S.e k1 t1.has _ λU s2 U v t2 k2=>vq k2 t2.has λU j U r c e q h=>afP h (λkvs hk h=>pR h λx b h=>k J (put j _ ⟨s2.a,s2.r,r⟩) _ (afS (c▸m) (b▸v) (by rw[e,hk];exact if_pos h.1)) ((t1.trans t2).trans (kh t2.has q)) h.2) λh=>getL h λxs hk h=>yw h λx b h=>fD h λh1 h=>k J (put j _ ⟨s2.a,s2.r,r⟩) _ (aaX (c▸m) (eq_of_beq h1▸b▸v) (e.trans hk) h.1.1 h.1.2 rfl) ((t1.trans t2).trans (kh t2.has q)) h.2
 |_=>exact False.elim h
theorem Vu(S:qw pe cx n g){u:V}{K:Loc->St->Prop}(h:afL pe g O J ts u s K)(b:Has H s.l):Rz H s (λl H'=>VB cx n O ts u J H l H') K:=λU k=>by
 induction ts using List.casesOn with
 |nil=>lia
 |cons t ts=>
  induction ts using List.casesOn with
  |nil=>exact fD h λh1 h=>tu S h b _ λU U U a=>k _ _ _ (nG (mG h1) a)
  |cons t2 ts=>
   induction ts using List.casesOn with
   |cons _ _=>exact False.elim h
   |nil=>exact fD h λh0 h=>have hb:=aZ h0;tu S h b _ λU U U a t1 k1=>tu S k1 t1.has _ λU U U c t2 k2=>k _ _ _ (Vv (mG hb.1) (mG hb.2) a (nG (mG hb.2) c)) (t1.trans t2) k2
def pD{t:Expr}{us:List Expr}(h:rQ t=some us):∃j p,t=.Tuple us j p:=
 jD (R:=λus=>∃j p,t=.Tuple us j p) (by cases t <;> first|exact trivial|exact⟨_,_,rfl⟩) h
theorem R7(h:ac7 ts a=true)(T:Env):swappedStores ts a T=pure none:=by
 induction ts using List.casesOn with
 |nil=>rfl
 |cons t ts=>
  have h1:bif yh t||(rQ t).isSome then True else ∀ts,swappedStores (t::ts) a T=pure none:=by
   clear h;induction t using Expr.casesOn <;> first|exact trivial|exact λU=>@rfl _ (pure none)
  have b:∀us j p,bif(rQ a).isSome then True else swappedStores [.Tuple us j p] a T=pure none:=by
   intro us j p;clear h h1;induction a using Expr.casesOn <;> first|exact trivial|exact @rfl _ (pure none)
  have h:(bif yh t then false else(rQ t).elim true λus=>ts.isEmpty&&((rQ a).isNone||!(us.length==2||us.length==3)))=true:=h;cases hl:yh t with
  |true=>rw[hl]at h;exact iC h
  |false=>
  rw[hl]at h;cases ht:rQ t with
  |none=>rw[hl,ht]at h1;exact h1 ts
  |some us=>
   rw[ht]at h;obtain⟨d,c⟩:=aZ h;obtain⟨j,p,rfl⟩:=pD ht;cases List.isEmpty_iff.mp d;have b:=b us j p;cases ha:rQ a with
   |none=>rw[ha]at b;exact b
   |some vs=>
    obtain⟨e,p2,rfl⟩:=pD ha;exact if_pos (by rw[show(!(us.length==2||us.length==3))=true from c];rfl)
def Tq(h:ad7 a=true):VD λx y z w=>a=.ListComp x y z w:=wg (by cases a <;> first|exact trivial|exact⟨_,_,_,_,rfl⟩) h
theorem Vt(S:qw pe cx n g){K:Loc->St->Prop}(h:afK pe n g O J ts a s K)(c:Has H s.l):Rz H s (λl H'=>GX cx (n+1) O (.Assign ts a p) J H .next l H') K:=λU k=>
 gM h (λhc h=>rE h λU b h=>jo h (λU j h=>fD h λh1 h=>Ei S.P h c _ λU U U e=>k _ _ _ (by obtain⟨q,rfl⟩:=wJ j;exact b▸Xe e (nG rfl (vd h1)))) λh=>fD h λh1 h=>iI h λU i h=>Ei S.P h c _ λU U U e t1 k1=>tu S k1 t1.has _ λU U U f t2 k2=>k _ _ _ (by
   obtain⟨_,_,rfl⟩:=pD i;obtain⟨x,y,z,w,rfl⟩:=Tq h1;exact b▸Xc e.1 f) (t1.trans t2) k2) λhc h=>
 gM h (λm h=>S.e h c _ λU U U d t1 k1=>Vu S k1 t1.has _ λU U U f t2 k2=>k _ _ _ (VG hc (R7 m) d f) (t1.trans t2) k2) λU h=>
 rE h λU b h=>iI h λU i h=>iI h λU o h=>fD h λh1 h=>S.e h c _ λU U U d t1 k1=>iI k1 λU r k1=>iI k1 λU hl k1=>k _ _ _ (by
  obtain⟨_,_,rfl⟩:=pD i;obtain⟨_,_,rfl⟩:=pD o;exact b▸Xd h1 (JD r▸d) hl) t1 k1
theorem Vp(S:qw pe cx n g){t:Expr}{o:Operator}{K:Loc->St->Prop}(h:afI pe g O J t o a s K)(f:Has H s.l):Rz H s (λl H'=>GX cx (n+1) O (.AugAssign t o a p) J H .next l H') K:=λU k=>by
 induction t using Expr.casesOn with
 |Name x q=>exact fD h λh1 h=>iI h λU i h=>fD h λd h=>S.e h f _ λU U U c t1 k1=>Hl k1 t1.has _ λU U U C t2 k2=>k _ _ _ (abo S.P h1 i d c C) (t1.trans t2) k2
 |Attribute w name q=>exact S.e h f _ λU U U c t1 k1=>vq k1 t1.has λU j U U u e U h=>Ea h t1.has e (λU hf U h=>fD h λd h=>S.e h t1.has _ λU s3 U r b k3=>iI k3 λv y h=>pI h b.has λU B U h=>iI h λU D h=>fD h λz h=>pI h b.has λU m A h=>iI h λkvs hk h=>fD h λhl h=>k J _ _ (Xa S.P (u▸c) hf d r (afH y) (GD (B.trans (Lg D)) z) (Gd (m.trans (Wd hk)) hl)) ((t1.trans b).trans (kh b.has A)) h) False.elim
 |_=>exact False.elim h
def I7{i:Expr}(h:yx i=true):∃p,i=.Slice none none none p:=wg (by
 cases i with
 |Slice x y z p=>cases x <;> first|exact trivial|(cases y <;> first|exact trivial|(cases z <;> first|exact trivial|exact⟨_,rfl⟩))
 |_=>exact trivial) h
def U6{t o:Expr}(h:afq t=some o):∃ps ps',t=.Subscript o (.Slice none none none ps) ps':=jD (R:=λo=>∃ps ps',t=.Subscript o (.Slice none none none ps) ps') (by
 cases t with
 |Subscript a i p'=>
  show(bif yx i then some a else none).elim True _;cases hf:yx i with
  |true=>obtain⟨p,rfl⟩:=I7 hf;exact⟨_,_,rfl⟩
  |false=>lia
 |_=>exact trivial) h
theorem U7(S:qw pe cx n g){K:St->Prop}(h:afr g O J ts s K)(m:Has H s.l):Rz H s (λ(_:Unit) H'=>GX cx (n+1) O (.Delete ts p) J H .next J H') (λU=>K):=λU k=>
 rE h λU d h=>iI h λU ho h=>S.e h m _ λU s1 U b t1 k1=>vq k1 t1.has λU j U r c e i k1=>getL k1 λU o k1=>k Unit.unit (put j _ ⟨s1.a,s1.r,r⟩) _ (by
  obtain⟨ps,f,rfl⟩:=U6 ho;exact d▸abn (c▸b) (e.trans o) k1.1 rfl) (t1.trans (kh t1.has i)) k1.2
def Ld(S:qw pe cx n g){st:Stmt}{K:Fl->Loc->St->Prop}(h:known n 8 [] (λt q l l'=>XX pe t.c O J st l (t.fl q) (t.J q) l') s λt q x s1=>K (t.fl q x) (t.J q x) s1)(a:Has H s.l):Rz H s (λ(q:Fl×Loc) H'=>GX cx (n+1) O st J H q.1 q.2 H') (λq=>K q.1 q.2):=λU k=>sI S.P h a (R:=λt q cx m x H H'=>GX cx m O st J H (t.fl q x) (t.J q x) H') id (Lw ·) λU U U U e=>k (_,_) _ _ (Lw (cF n) e)
theorem TV(S:qw pe cx n g){st:Stmt}{K:Fl->Loc->St->Prop}(h:aee pe n g O J st s K)(c:Has H s.l):Rz H s (λ(q:Fl×Loc) H'=>GX cx (n+1) O st J H q.1 q.2 H') (λq=>K q.1 q.2):=λU k=>by
 induction st using Stmt.casesOn with
 |Expr a p=>exact fD h λh1 h=>S.e h c _ λU U U b=>k (_,_) _ _ (Jz (mG h1) b)
 |Return a p=>
  induction a using Option.casesOn with
  |none=>exact k (_,_) s H (λU U U U U U C a=>wpAny_Return_none (a _ _ _ (dJ.refl _ C.inv) C.vars (.ret .none))) (.refl c) h
  |some a=>exact S.e h c _ λU U U b=>k (_,_) _ _ (Fi b)
 |If a x y p=>exact S.t h c _ λU U U b t1 k1=>yt S k1 t1.has _ λq U U d t2 k2=>k q _ _ (W9 b d) (t1.trans t2) k2
 |Assign ts a p=>exact Vt S h c _ λU U U b=>k (_,_) _ _ b
 |AugAssign t o a p=>exact Vp S h c _ λU U U b=>k (_,_) _ _ b
 |Delete ts p=>exact U7 S h c _ λU U U b=>k (_,J) _ _ b
 |_=>exact Ld S h c _ k
def ZR(S:qw pe cx n g){st:Stmt}{K:Fl->Loc->St->Prop}(h:goX pe n g O J st s K)(a:Has H s.l):Rz H s (λ(q:Fl×Loc) H'=>GX cx (n+1) O st J H q.1 q.2 H') (λq=>K q.1 q.2):=λU k=>
 YF h (λh=>Ld S h a _ k) λh=>TV S h a _ k
end
def snd(P:eY pe cx)(n:Nat):qw pe cx n (goN pe n):=by
 induction n with
 |zero=>exact⟨P,λh=>h.elim,λh=>h.elim,λh=>h.elim⟩
 |succ n ih=>exact⟨P,ZW ih,ZS ih,ZR ih⟩
def kept(s:St)(K:LH->Prop):Prop:=pop 9 0 false [] s λt s=>K ((sel t.js s.a 0).1++(sel t.js2 (sel t.js s.a 0).2 0).1++s.r)
def qM{K:LH->Prop}(h:kept s K)(t:Tp H l H' s.l)(z:∀k,Tp H l H' k->K k->G):G:=
 rB h λx U h=>z _ ((t.to ((tR).1.append_right s.r)).sub (((List.Sublist.refl _).append tR.2).append_right s.r)) h
section
variable {pe:Pe} {n:Nat} {a r:LH} (o:List To)
def zrS(pe:Pe)(n:Nat)(O:Sc)(J:Loc)(a r:LH)(o:List To)(body:List Stmt)(fl:Pl->Fl)(dI:Pl->Loc)(l':Pl->LH)(F:Fl->Loc->LH->Prop)(_:∀x,F (fl x) (dI x) (l' x)):Prop:=I5 (goN pe n) O body J ⟨a,r,o⟩ λfl J s=>kept s (F fl J)
theorem XS.go{dI:Pl->Loc}{T7:∀F:Fl->Loc->LH->Prop,(∀x,F (fl x) (dI x) (l' x))->Prop}(h:∀F f,T7 F f)(e:zrS pe n O J a r o body fl dI l'=T7:=by kernel_rfl):XS pe n O J body (a++r) fl dI l':=λcx P H b=>by
 subst e;exact yt (snd P n) (h (λf l k=>∃x,f=fl x/\l=dI x/\k=l' x) λx=>⟨x,rfl,rfl,rfl⟩) b _ λq U H' c t1 k=>qM k t1 λk t2 ⟨x,h1,d,g⟩=>⟨x,H',by show vY cx n O body J H _ _ H';rw[<- h1,<- d];exact c,g▸t2⟩
def zrE(pe:Pe)(n:Nat)(O:Sc)(J:Loc)(a r:LH)(o:List To)(b:Expr)(v:Pl->V)(l':Pl->LH)(F:V->LH->Prop)(_:∀x,F (v x) (l' x)):Prop:=(goN pe n).e O J b ⟨a,r,o⟩ λv s=>kept s (F v)
def EE.go{b:Expr}{v:Pl->V}{T7:∀F:V->LH->Prop,(∀x,F (v x) (l' x))->Prop}(h:∀F f,T7 F f)(e:zrE pe n O J a r o b v l'=T7:=by kernel_rfl):EE pe n O J b (a++r) v l':=λcx P H c=>by
 subst e;exact(snd P n).e (h (λf k=>∃x,f=v x/\k=l' x) λx=>⟨x,rfl,rfl⟩) c _ λf U H' d t1 k=>qM k t1 λk t2 ⟨x,h1,g⟩=>⟨x,H',by show GE cx n O J b H _ H';exact(h1).symm▸d,g▸t2⟩
abbrev TT(pe:Pe)(n:Nat)(O:Sc)(J:Loc)(e:Expr)(l:LH)(v:Pl->Bool)(l':Pl->LH):Prop:=ZZ pe (λcx x H H'=>GT cx n O J e H (v x) H') l l'
def zrT(pe:Pe)(n:Nat)(O:Sc)(J:Loc)(a r:LH)(o:List To)(b:Expr)(v:Pl->Bool)(l':Pl->LH)(F:Bool->LH->Prop)(_:∀x,F (v x) (l' x)):Prop:=(goN pe n).t O J b ⟨a,r,o⟩ λv s=>kept s (F v)
def TT.go{b:Expr}{v:Pl->Bool}{T7:∀F:Bool->LH->Prop,(∀x,F (v x) (l' x))->Prop}(h:∀F f,T7 F f)(e:zrT pe n O J a r o b v l'=T7:=by kernel_rfl):TT pe n O J b (a++r) v l':=λcx P H c=>by
 subst e;exact(snd P n).t (h (λf k=>∃x,f=v x/\k=l' x) λx=>⟨x,rfl,rfl⟩) c _ λf U H' d t1 k=>qM k t1 λk t2 ⟨x,h1,g⟩=>⟨x,H',by show GT cx n O J b H _ H';exact(h1).symm▸d,g▸t2⟩
end
noncomputable def sub(c:Nat)(z l:List Nat):List Nat:=l.flatMap λk=>if k=c then z else[k]
def tH{z l:List Nat}(h:c∉l):sub c z l=l:=by
 unfold sub
 induction l with
 |nil=>rfl
 |cons k l ih=>rw[cX,ih λq=>h (.tail _ q),if_neg λq=>h (by rw[q];exact .head _)];rfl
theorem Ka:∀b:List Str,(∀p∈b,c∉p.cps.toList)->sub c z.cps.toList (Str.join ⟨#[c]⟩ b).cps.toList=(Str.join z b).cps.toList:=λb=>by
 induction b with
 |nil=>exact λU=>rfl
 |cons p l ih=>
  intro h;cases l with
  |nil=>exact tH (h p (.head _))
  |cons q r=>
   show sub c z.cps.toList (p++⟨#[c]⟩++Str.join ⟨#[c]⟩ _).cps.toList=(p++z++Str.join z _).cps.toList;rw[Str.cps_append,Str.cps_append,Array.toList_append,Array.toList_append,Str.cps_append,Str.cps_append,Array.toList_append,Array.toList_append,<- (ih λa e=>h a (.tail _ e))];unfold sub;rw[List.flatMap_append,List.flatMap_append];have d:=tH (z:=z.cps.toList) (h p (.head _));congr 2;show(if c=c then z.cps.toList else[c])++[]=_;rw[if_pos rfl,aX]
def zM(x z:Str)(c:Nat):(Txt.replace x ⟨#[c]⟩ z).cps.toList=sub c z.cps.toList x.cps.toList:=by
 rw[StrLaws.replace_one,<- Ka _ (StrLaws.split_free x c),StrLaws.join_split]
noncomputable def rep(v c z:Str):Str:=bif Txt.contains v c then Txt.replace v c z else v
def Rr(x z:Str)(c:Nat):(rep x ⟨#[c]⟩ z).cps.toList=sub c z.cps.toList x.cps.toList:=by
 unfold rep;cases h:Txt.contains x ⟨#[c]⟩with
 |true=>exact zM x z c
 |false=>
  refine(tH λq=>?_).symm;replace q:c∈x.cps.toList:=q;unfold Txt.contains at h;rw[StrLaws.found_one]at h;exact Bool.false_ne_true (h.symm.trans (decide_eq_true q))
noncomputable def qF(ps:List (Nat×List Nat))(k:Nat):List Nat:=(ps.lookup k).getD [k]
def subs:List (Nat×List Nat)->List Nat->List Nat
 |[],l=>l
 |(c,z)::r,l=>subs r (sub c z l)
noncomputable def Fw:List (Nat×List Nat)->Bool
 |[]=>true
 |(_,z)::r=>(z.all λk=>(r.lookup k).isNone)&&Fw r
def QW{r:List (Nat×List Nat)}{z:List Nat}(h:z.all (λk=>(r.lookup k).isNone)=true):z.flatMap (qF r)=z:=by
 induction z with
 |nil=>rfl
 |cons k z ih=>
  obtain⟨h1,a⟩:=aZ ();rw[cX,ih a];unfold qF;rw[Option.isNone_iff_eq_none.mp h1];rfl
theorem qG{ps:List (Nat×List Nat)}:∀{l:List Nat},Fw ps=true->subs ps l=l.flatMap (qF ps):=by
 induction ps with
 |nil=>exact λ{l} U=>(List.flatMap_singleton' l).symm
 |cons p r ih=>
  intro l h;obtain⟨h1,a⟩:=aZ h;show subs r (sub p.1 p.2 l)=_;rw[ih a];unfold sub;rw[List.flatMap_assoc];refine congrArg l.flatMap (funext λk=>?_);by_cases e:k=p.1
  rw[if_pos e,QW h1];unfold qF;rw[bx,beq_iff_eq.mpr e];rfl
  rw[if_neg e];show qF r k++[]=_;rw[aX];unfold qF;rw[bx,bB e]
def Ol{f:Nat->List Nat}{b:Nat}(h:∀k,(f k).length<=b)(l:List Nat):(l.flatMap f).length<=b*l.length:=by
 induction l with
 |nil=>lia
 |cons k l ih=>
  rw[cX,aC];exact Nat.add_comm _ _▸dg ih (h k)
section
structure Z where
 P:Params
 sa:Addr
 is:List Int
abbrev dK(Y:Z):Pe:=(gO Y.P Y.sa Y.is).pe
def Qp(ps:List (Nat×Str))(x:Str):Str:=ps.foldl (λv p=>rep v ⟨#[p.1]⟩ p.2) x
noncomputable def lst(ps:List (Nat×Str)):List (Nat×List Nat):=ps.map λp=>(p.1,p.2.cps.toList)
def uZ(ps:List (Nat×Str)):∀x:Str,(Qp ps x).cps.toList=subs (lst ps) x.cps.toList:=by
 induction ps with
 |nil=>exact λU=>rfl
 |cons p r ih=>
  intro x;show(Qp r _).cps.toList=subs (lst r) _;rw[ih,Rr]
def Zc{a:Type}{b:a}{l:List (Nat×a)}(h:l.lookup k=some b):(k,b)∈l:=by
 induction l with
 |nil=>exact gB h
 |cons p l ih=>
  rw[bx]at h;cases e:k==p.1 with
  |true=>rw[e]at h;cases h;rw[beq_iff_eq.mp e];exact .head _
  |false=>rw[e]at h;exact .tail _ (ih h)
def QV{ps:List (Nat×List Nat)}(h:ps.all (λp=>Nat.ble p.2.length 6)=true)(k:Nat):(qF ps k).length<=6:=by
 unfold qF;cases e:ps.lookup k with
 |none=>lia
 |some z=>exact bO (List.all_eq_true.mp h _ (Zc e))
def Xz(x:Str):x.length=x.cps.toList.length:=by rfl
def qp{ps:List (Nat×Str)}(h1:Fw (lst ps)=true)(a:(lst ps).all (λp=>Nat.ble p.2.length 6)=true):(Qp ps x).length<=6*x.length:=by
 rw[Xz,uZ,qG h1];exact Ol (QV a) _
noncomputable def psC:List (Nat×Str):=[(38,"&amp;"),(60,"&lt;"),(62,"&gt;"),(13,"&#xD;")]
noncomputable def psA:List (Nat×Str):=[(38,"&amp;"),(60,"&lt;"),(34,"&quot;"),(9,"&#x9;"),(10,"&#xA;"),(13,"&#xD;")]
def eV(x:Str):Str:=Qp psC x
def mK(x:Str):Str:=Qp psA x
noncomputable def Yd:Sc:=[("text",.local),("TypeError",.globalImplicit),("AttributeError",.globalImplicit),("_raise_serialization_error",.globalImplicit)]
variable {Y:Z}
theorem kZ(P:eY (dK Y) cx){ps:List (Nat×Str)}(hp:p6.endLine=p9.line)(a:x.length<=100000)(hc:((⟨#[p.1]⟩:Str)==p.2)=false)(hz:p.2.length<=6)(h1:Fw (lst ps)=true)(b:(lst ps).all (λp=>Nat.ble p.2.length 6)=true):GX cx (k+1) Yd (.If (.Compare (.Constant (.str ⟨#[p.1]⟩) k1 p1) [.In] [.Name "text" p2] p3) [.Assign [.Name "text" p4] (.Call (.Attribute (.Name "text" p5) "replace" p6) [.Constant (.str ⟨#[p.1]⟩) k2 p7,.Constant (.str p.2) k3 p8] [] p9) Qk] [] p11) [("text",.s (Qp ps x))] H .next [("text",.s (Qp (ps++[p]) x))] H:=by
 have e:Qp (ps++[p]) x=rep (Qp ps x) ⟨#[p.1]⟩ p.2:=by unfold Qp;rw[cU];rfl
 rw[e];exact abm P rfl rfl hp hc ((by
  have a:=aK (qp h1 b) (Nat.mul_le_mul_left 6 a);exact aK (dg a (Nat.mul_le_mul (cu a) hz)) ())) (by
  unfold rep;cases Txt.contains _ _ <;> rfl)
theorem abI(P:eY (dK Y) cx)(h:x.length<=100000):gV cx (k+12) (.f 154) [.s x] [] H (.s (eV x)) H:=KD (iR P (aah Y.P Y.sa Y.is) (X8 Y.P) (by rfl) (by rfl) (gW (VF (d7 (kZ P (p:=(38,"&amp;")) (ps:=[]) rfl h rfl (fM rfl) rfl rfl) (d7 (kZ P (p:=(60,"&lt;")) rfl h rfl (fM rfl) rfl rfl) (d7 (kZ P (p:=(62,"&gt;")) rfl h rfl (fM rfl) rfl rfl) (d7 (kZ P (p:=(13,"&#xD;")) rfl h rfl (fM rfl) rfl rfl) (gW (Fi (iJ P rfl)) rfl)))))) rfl) rfl)
theorem abJ(P:eY (dK Y) cx)(h:x.length<=100000):gV cx (k+12) (.f 161) [.s x] [] H (.s (mK x)) H:=KD (iR P (aai Y.P Y.sa Y.is) (Yb Y.P) (by rfl) (by rfl) (gW (VF (d7 (kZ P (p:=(38,"&amp;")) (ps:=[]) rfl h rfl (fM rfl) rfl rfl) (d7 (kZ P (p:=(60,"&lt;")) rfl h rfl (fM rfl) rfl rfl) (d7 (kZ P (p:=(34,"&quot;")) rfl h rfl (fM rfl) rfl rfl) (d7 (kZ P (p:=(9,"&#x9;")) rfl h rfl (fM rfl) rfl rfl) (d7 (kZ P (p:=(10,"&#xA;")) rfl h rfl (fM rfl) rfl rfl) (d7 (kZ P (p:=(13,"&#xD;")) rfl h rfl (fM rfl) rfl rfl) (gW (Fi (iJ P rfl)) rfl)))))))) rfl) rfl)
noncomputable def cat:List Str->Str
 |[]=>cJ
 |x::r=>x++cat r
def jk(a b:List Str):cat (a++b)=cat a++cat b:=by
 induction a with
 |nil=>exact(dh _).symm
 |cons x a ih=>
  show x++cat (a++b)=x++cat a++cat b;rw[ih,dj]
def jj(x:Str):cat [x]=x:=dz x
def M4(l:List Str):Str.join cJ l=cat l:=by
 induction l with
 |nil=>rfl
 |cons x l ih=>cases l with
  |nil=>rfl
  |cons y r=>
   show x++cJ++Str.join cJ (y::r)=x++cat _;rw[ih,dz]
def nH(l:List Str):Txt.join cJ l=cat l:=(StrLaws.glued_eq_join _ l).trans (M4 l)
def Oc(l:List Str):∀a:Nat,l.foldl (λn x=>n+x.length+Str.empty.length) a=a+(cat l).length:=by
 induction l with
 |nil=>exact λU=>rfl
 |cons x r ih=>
  intro a;show r.foldl _ (a+x.length+0)=a+(x++cat r).length;rw[ih,Str.length_append];lia
def qO(h:(cat l).length<=10000000):JoinOk cJ l=true:=by
 unfold JoinOk;have a:l.toArray.foldl (λn x=>n+x.length+Str.empty.length) 0=(cat l).length:=by
  rw[List.foldl_toArray,Oc,Nat.zero_add]
 exact a▸(cO _).mpr (decide_eq_false (Nat.not_lt.mpr ()))
def gb(l:List Str):strsOf (l.map .s)=some l:=by
 induction l with
 |nil=>rfl
 |cons a l ih=>exact congrArg _ ih
def lM(h:x.length<=100000):(eV x).length<=600000:=aK (qp rfl rfl) ()
def lN(h:x.length<=100000):(mK x).length<=600000:=aK (qp rfl rfl) ()
def fJ(a b:Str):(a++b).length=a.length+b.length:=Str.length_append a b
def ZZ.pure(h:∀⦃cx⦄,eY pe cx->∀H,R cx (λU=>0) H H):ZZ pe R l (λU=>l):=λU P H a=>⟨λU=>0,H,h P H,.refl a⟩
def nD(Y:Z)(r:LH)(h:x.length<=100000):CC (dK Y) 12 (.f 154) [.s x] [] r (λU=>.s (eV x)) (λU=>r):=ZZ.pure λU P U=>abI P h
def afE(Y:Z)(r:LH)(h:x.length<=100000):CC (dK Y) 12 (.f 161) [.s x] [] r (λU=>.s (mK x)) (λU=>r):=ZZ.pure λU P U=>abJ P h
def CC.mt{y:V}{v:Pl->V}(h:ZZ pe (λcx x H H'=>yU cx n f (y::args) kw H (v x) H') L L'):CC pe (n+1) (.m f y) args kw L v L':=λU P H a=>by
 obtain⟨x,H',e,t⟩:=h P H a;exact⟨x,H',agK e,t⟩
def CC.fn{v:Pl->V}(h:ZZ pe (λcx x H H'=>yU cx n f args kw H (v x) H') L L'):CC pe (n+1) (.f f) args kw L v L':=λU P H a=>by
 obtain⟨x,H',e,t⟩:=h P H a;exact⟨x,H',KD e,t⟩
def a{A B:Prop}(x:A)(y:B):A/\B:=⟨x,y⟩
def e(p:Nat):p=p:=rfl
def dH(p:Nat){B:Prop}(y:B):p=p/\B:=⟨rfl,y⟩
end
variable {Y:Z}
section
variable {pe:Pe} {n:Nat} {L1 L2:LH} {x:V} {fl:Pl->Fl} {dI:Pl->Loc}
def ZZ.weak{k:Pl->LH}(h:ZZ pe R L l')(hk:∀x,(k x).Sublist (l' x)):ZZ pe R L k:=λU P H a=>by
 obtain⟨x,H',e,t⟩:=h P H a;exact⟨x,H',e,t.sub (hk x)⟩
def ZZ.perm{k:Pl->LH}(h:ZZ pe R L l')(hl:L1.Perm L)(hk:∀x,(k x).Perm (l' x)):ZZ pe R L1 k:=λU P H a=>by
 obtain⟨x,H',e,t⟩:=h P H (a.to hl.symm);exact⟨x,H',e,(t.of hl).to (hk x)⟩
abbrev Ju(H H0:Hp)(src:Option Nat)(L:LH):Prop:=∀i,src=some i->i<H.n/\i∉ks L/\H.f i=H0.f i
def Ju.step{H0:Hp}(b:Ju H H0 src L)(t:Tp H L H1 L1):Ju H1 H0 src L1/\stands H0 H1 src:=by
 have h:∀i,src=some i->i<H1.n/\i∉ks L1/\H1.f i=H0.f i:=λi hi=>by
  obtain⟨h1,a,c⟩:=b i hi;exact⟨aM h1 t.le,λq=>(t.nw i q).elim a λq=>absurd h1 (Nat.not_lt.mpr q),(t.fr i h1 a).trans c⟩
 refine⟨h,?_⟩;cases src with
 |none=>lia
 |some i=>exact(h i rfl).2.2
def FT(pe:Pe)(n:Nat)(O:Sc)(target:Expr)(body:List Stmt)(xs:List V)(J:Loc)(L:LH)(fl:Pl->Fl)(dI:Pl->Loc)(l':Pl->LH):Prop:=∀⦃cx⦄,eY pe cx->∀H H0 src,Has H L->Ju H H0 src L->Ex2 λx H'=>yV cx n O target body src H0 xs J H (fl x) (dI x) H'/\Tp H L H' (l' x)
def FT.nil:FT pe n O target body [] J L (λU=>.next) (λU=>J) (λU=>L):=λU P H U U a U=>⟨λU=>0,H,WM,.refl a⟩
theorem FT.cons{mH:Pl->Loc}{L2:Pl->LH}(hb:∀H,Has H L->iB O H target x J=some eE)(h1:XS pe n O eE body L f1 mH L2)(e:∀x,uL (f1 x)=true)(d:∀x,FT pe n O target body xs (mH x) (L2 x) fl dI l'):FT pe n O target body (x::xs) J L fl dI l':=λU P H H0 src a b=>by
 obtain⟨y,H1,c,t1⟩:=h1 P H a;obtain⟨b1,st⟩:=b.step t1;obtain⟨z,H2,f,t2⟩:=d y P H1 H0 src t1.has b1;exact⟨z,H2,Ou (hb H a) c (e y) st f,t1.trans t2⟩
def FT.ret{v:Pl->V}(hb:∀H,Has H L->iB O H target x J=some eE)(h1:XS pe n O eE body L (λx=>.ret (v x)) dI l'):FT pe n O target body (x::xs) J L (λx=>.ret (v x)) dI l':=λU P H H0 src a b=>by
 obtain⟨y,H1,c,t1⟩:=h1 P H a;exact⟨y,H1,aex (hb H a) c,t1⟩
def FT.forget(hl:∀y v,Iu.lookup y=some v->J.lookup y=some v)(h:FT pe n O target body xs Iu L fl dI l'):FT pe n O target body xs J L fl dI l':=λU P H H0 src a b=>by
 obtain⟨y,H1,c,t1⟩:=h P H H0 src a b;exact⟨y,H1,Bb hl c,t1⟩
def FT.frame{k:LH}(h:FT pe n O target body xs J L fl dI l'):FT pe n O target body xs J (L++k) fl dI (λx=>l' x++k):=λU P H H0 src a b=>by
 obtain⟨y,H1,c,t1⟩:=h P H H0 src (a.sub (cY ..)) λi hi=>by
  obtain⟨h1,d,e⟩:=b i hi;exact⟨h1,λq=>d (((cY L k).map _).subset q),e⟩
 exact⟨y,H1,c,t1.frame a⟩
def FT.perm{k:Pl->LH}(h:FT pe n O target body xs J L fl dI l')(hl:L1.Perm L)(hk:∀x,(k x).Perm (l' x)):FT pe n O target body xs J L1 fl dI k:=λU P H H0 src a b=>by
 obtain⟨y,H1,c,t1⟩:=h P H H0 src (a.to hl.symm) λi hi=>by
  obtain⟨h1,d,e⟩:=b i hi;exact⟨h1,λq=>d ((hl.map _).mem_iff.mpr q),e⟩
 exact⟨y,H1,c,(t1.of hl).to (hk y)⟩
theorem XX.Z9(d:gA iter=false)(h1:EE pe n O J iter L (λx=>.r (x 0)) (λx=>L1++[(x 0,.l xs)]))(b:FT pe n O target body xs J L1 fl dI l'):XX pe (n+1) O J (.For target iter body [] pos) L fl dI l':=λU P H e=>by
 obtain⟨y,H1,a,t1⟩:=h1 P H e;have hf:=(t1.has.el _ (aG _ cQ));have f:(ks L1++[y 0]).Nodup:=by
  have:=t1.has.nd
  rwa [show ks (L1++[(y 0,dN.l xs)])=ks L1++[y 0]from aH]at this
 obtain⟨z,H2,c,t2⟩:=b P H1 H1 (some (y 0)) (t1.has.sub (cY ..)) λi hi=>by
  cases hi;exact⟨hf.1,λq=>(xY.mp f).2.2 _ q cQ,rfl⟩
 exact⟨z,H2,Jy d a (jz hf.2) c,(t1.sub (cY ..)).trans t2⟩
def XX.ah0(d:gA iter=false)(hi:∀H,items H v=some (xs,none))(h1:EE pe n O J iter L (λU=>v) (λU=>L1))(b:FT pe n O target body xs J L1 fl dI l'):XX pe (n+1) O J (.For target iter body [] pos) L fl dI l':=λU P H e=>by
 obtain⟨y,H1,a,t1⟩:=h1 P H e;obtain⟨z,H2,c,t2⟩:=b P H1 H1 none t1.has λi hi=>gB hi;exact⟨z,H2,Jy d a (hi _) c,t1.trans t2⟩
def CT(pe:Pe)(n:Nat)(O:Sc)(em:Em)(gens:List Comprehension)(target:Expr)(ifs:List Expr)(xs:List V)(J:Loc)(L:LH)(ys:Pl->List V)(l':Pl->LH):Prop:=∀⦃cx⦄,eY pe cx->∀H H0 src,Has H L->Ju H H0 src L->Ex2 λx H'=>Ho cx n O em gens target ifs J src H0 xs H (ys x) H'/\Tp H L H' (l' x)
variable {ys:Pl->List V}
def CT.nil:CT pe n O em gens target ifs [] J L (λU=>[]) (λU=>L):=λU P H U U a U=>⟨λU=>0,H,El,.refl a⟩
theorem CT.cons(hb:∀H,Has H L->iB O H target x J=some eE)(h1:ZZ pe (λcx U H H'=>zf cx n O eE ifs H true H') L (λU=>L))(d:ZZ pe (λcx U H H'=>Fb cx n O em gens eE H f H') L (λU=>L))(h3:CT pe n O em gens target ifs xs J L (λU=>zs) (λU=>L)):CT pe n O em gens target ifs (x::xs) J L (λU=>f++zs) (λU=>L):=λU P H H0 src a b=>by
 obtain⟨_,H1,c,t1⟩:=h1 P H a;obtain⟨_,H2,g,t2⟩:=d P H1 t1.has;obtain⟨b1,st⟩:=b.step (t1.trans t2);obtain⟨z,H3,e,h⟩:=h3 P H2 H0 src t2.has b1;exact⟨z,H3,yJ (hb H a) c g st e,(t1.trans t2).trans h⟩
theorem CT.skip(hb:∀H,Has H L->iB O H target x J=some eE)(h1:ZZ pe (λcx U H H'=>zf cx n O eE ifs H false H') L (λU=>L))(h3:CT pe n O em gens target ifs xs J L (λU=>zs) (λU=>L)):CT pe n O em gens target ifs (x::xs) J L (λU=>zs) (λU=>L):=λU P H H0 src a b=>by
 obtain⟨_,H1,c,t1⟩:=h1 P H a;obtain⟨b1,st⟩:=b.step t1;obtain⟨z,H3,d,e⟩:=h3 P H1 H0 src t1.has b1;exact⟨z,H3,Pj (hb H a) c st d,t1.trans e⟩
theorem CT.flat{α:Type}{f:α->V}{g:α->List V}{N:List α}(h:∀p∈N,∃eE,(∀H,Has H L->iB O H target (f p) J=some eE)/\((ZZ pe (λcx U H H'=>zf cx n O eE ifs H true H') L (λU=>L)/\ZZ pe (λcx U H H'=>Fb cx n O em gens eE H (g p) H') L (λU=>L))\/(ZZ pe (λcx U H H'=>zf cx n O eE ifs H false H') L (λU=>L)/\g p=[]))):CT pe n O em gens target ifs (N.map f) J L (λU=>N.flatMap g) (λU=>L):=by
 induction N with
 |nil=>exact CT.nil
 |cons p N ih=>
  obtain⟨l1,hb,h1⟩:=h p (.head _);have ih:=ih λq b=>h q (.tail _ b);rw[cX];rcases h1 with⟨h1,a⟩|⟨h1,a⟩
  exact .cons hb h1 a ih
  exact a▸.skip hb h1 ih
def EY.nil:ZZ pe (λcx U H H'=>zf cx n O J [] H true H') L (λU=>L):=λU P H a=>⟨λU=>0,H,yu,.refl a⟩
def EY.one(h:TT pe n O J c L (λU=>b) (λU=>L)):ZZ pe (λcx U H H'=>zf cx n O J [c] H b H') L (λU=>L):=λU P H a=>by
 obtain⟨x,H1,d,t1⟩:=h P H a;exact⟨x,H1,(by
  cases b
  exact NP d
  exact T4 d yu),t1⟩
def BK.el(h:EE pe n O J c L (λU=>v) (λU=>L)):ZZ pe (λcx U H H'=>Fb cx n O (.el c) [] J H [v] H') L (λU=>L):=λU P H a=>by
 obtain⟨x,H1,b,t1⟩:=h P H a;exact⟨x,H1,Nj b,t1⟩
def BK.kv{c d:Expr}{k:Str}(h:EE pe n O J c L (λU=>.s k) (λU=>L))(f:EE pe n O J d L (λU=>v) (λU=>L)):ZZ pe (λcx U H H'=>Fb cx n O (.kv c d) [] J H [.t [.s k,v]] H') L (λU=>L):=λU P H a=>by
 obtain⟨x,H1,e,t1⟩:=h P H a;obtain⟨y,H2,b,t2⟩:=f P H1 t1.has;exact⟨y,H2,Nk e b,t1.trans t2⟩
structure Vz (pe:Pe) (n:Nat) (O:Sc) (J:Loc) (iter:Expr) (L:LH) (xs:List V) (L1 k:LH):Prop where
 go:∀⦃cx⦄,eY pe cx->∀H,Has H L->W6 λit src H1=>GE cx n O J iter H it H1/\items H1 it=some (xs,src)/\Ju H1 H1 src L1/\Tp H L H1 (L1++k)
def Er(h:Has H1 (L1++[(p,.l xs)])):H1.f p=.l xs/\Ju H1 H1 (some p) L1:=by
 have hf:=(h.el _ (aG _ cQ));have a:(ks L1++[p]).Nodup:=by
  have:=h.nd
  rwa [show ks (L1++[(p,dN.l xs)])=ks L1++[p]from aH]at this
 refine⟨hf.2,λi hi=>?_⟩;cases hi;exact⟨hf.1,λq=>(xY.mp a).2.2 _ q cQ,rfl⟩
def Vz.new(h1:EE pe n O J iter L (λx=>.r (x 0)) (λx=>L1++[(x 0,.l xs)])):Vz pe n O J iter L xs L1 []:=⟨λU P H a=>by
 obtain⟨y,H1,c,t1⟩:=h1 P H a;obtain⟨hf,b⟩:=Er t1.has;exact⟨_,_,H1,c,jz hf,b,by rw[aX];exact t1.sub (cY ..)⟩⟩
def Vz.old(h1:EE pe n O J iter L (λU=>.r p) (λU=>L1++[(p,.l xs)])):Vz pe n O J iter L xs L1 [(p,.l xs)]:=⟨λU P H a=>by
 obtain⟨y,H1,c,t1⟩:=h1 P H a;obtain⟨hf,b⟩:=Er t1.has;exact⟨_,_,H1,c,jz hf,b,t1⟩⟩
def Vz.val(hi:∀H,items H v=some (xs,none))(h1:EE pe n O J iter L (λU=>v) (λU=>L1)):Vz pe n O J iter L xs L1 []:=⟨λU P H a=>by
 obtain⟨y,H1,b,t1⟩:=h1 P H a;exact⟨_,_,H1,b,hi _,λi hi=>gB hi,by rw[aX];exact t1⟩⟩
variable {p:Pos} {k:LH}
def CT.run(P:eY pe cx){ys:List V}(b:CT pe n O em gens target ifs xs J L1 (λU=>ys) (λU=>L2))(t1:Tp H L H1 (L1++k))(b1:Ju H1 H1 src L1):∃H2,Ho cx n O em gens target ifs J src H1 xs H1 ys H2/\Tp H L H2 (L2++k):=by
 obtain⟨_,H2,a,t2⟩:=b P H1 H1 src (t1.has.sub (cY ..)) b1;exact⟨H2,a,t1.trans (t2.frame t1.has)⟩
theorem EC.lc{ys:List V}(a:ji pe O scope=true)(e:gA iter=false)(h1:Vz pe n O J iter L xs L1 k)(hf:(jf target).any (λx=>((around scope.names J).lookup x).isSome)=false)(c:CT pe n scope.names (.el elt) gens target ifs xs (around scope.names J) L1 (λU=>ys) (λU=>L2))(hl:ys.length<=lim):EC pe (n+1) O J (.ListComp elt (⟨target,iter,ifs,0⟩::gens) scope p) L (λx=>.r (x 0)) (λx=>(x 0,.l ys)::(L2++k)):=λU P H f=>by
 obtain⟨it,src,H1,b,hi,b1,t1⟩:=h1.go P H f;obtain⟨H2,d,t2⟩:=c.run P t1 b1;exact⟨λU=>H2.n,_,afF P a e b hi hf d hl rfl,t2.trans (.new t2.has)⟩
theorem EC.dc{u v:Expr}{ys:List V}(a:ji pe O scope=true)(f:gA iter=false)(h1:Vz pe n O J iter L xs L1 k)(hf:(jf target).any (λx=>((around scope.names J).lookup x).isSome)=false)(c:CT pe n scope.names (.kv u v) gens target ifs xs (around scope.names J) L1 (λU=>ys) (λU=>L2))(hl:ys.length<=lim):EC pe (n+1) O J (.DictComp u v (⟨target,iter,ifs,0⟩::gens) scope p) L (λx=>.r (x 0)) (λx=>(x 0,.d (iu ys))::(L2++k)):=λU P H g=>by
 obtain⟨it,src,H1,b,hi,b1,t1⟩:=h1.go P H g;obtain⟨H2,e,t2⟩:=c.run P t1 b1;exact⟨λU=>H2.n,_,afG P a f b hi hf e hl rfl,t2.trans (.new t2.has)⟩
theorem BK.next{ys:List V}(d:gA iter=false)(h1:Vz pe n O J iter L xs L1 k)(hp:L.Perm (L2++k))(hf:(jf target).any (λx=>(J.lookup x).isSome)=false)(b:CT pe n O em gens target ifs xs J L1 (λU=>ys) (λU=>L2)):ZZ pe (λcx U H H'=>Fb cx n O em (⟨target,iter,ifs,0⟩::gens) J H ys H') L (λU=>L):=λU P H e=>by
 obtain⟨it,src,H1,a,hi,b1,t1⟩:=h1.go P H e;obtain⟨H2,c,t2⟩:=b.run P t1 b1;exact⟨λU=>0,H2,Ni d a hi hf c,t2.to hp⟩
def PX(pe:Pe)(n:Nat)(O:Sc)(b1 b2:List Stmt)(J:Loc)(L:LH)(eE:Pl->Loc)(l1:Pl->LH):Prop:=∀⦃cx⦄,eY pe cx->∀H,Has H L->Ex2 λx H1=>Tp H L H1 (l1 x)/\∀fl dI H',vY cx n O b2 (eE x) H1 fl dI H'->vY cx n O b1 J H fl dI H'
def PX.perm{eE:Pl->Loc}{l1 k:Pl->LH}(h:PX pe n O b1 b2 J L eE l1)(hl:L1.Perm L)(hk:∀x,(k x).Perm (l1 x)):PX pe n O b1 b2 J L1 eE k:=λU P H a=>by
 obtain⟨x,H1,t1,b⟩:=h P H (a.to hl.symm);exact⟨x,H1,(t1.of hl).to (hk x),b⟩
theorem Nz{g:Go}(S:qw pe cx n g):∀{J s H},I5 g O es J s (λfl J s=>wh (isNext fl) (K' J s))->Has H s.l->Rz H s (λlc H'=>∀fl dI H2,vY cx n O b2 lc H' fl dI H2->vY cx n O (es++b2) J H fl dI H2) K':=by
 induction es with
 |nil=>exact λ{J U _} h b U k=>k J _ _ (λU U U e=>e) (.refl b) h
 |cons a es ih=>exact λh b U k=>S.x h b _ λq U U f t1 k1=>gM k1 (λhf k1=>ih k1 t1.has _ λU U U d t2 k2=>k _ _ _ (λU U U e=>d7 (GR hf▸f) (d _ _ _ e)) (t1.trans t2) k2) λhf k1=>fD k1 λc U=>iC (hf.symm.trans c)
def zrP(pe:Pe)(n:Nat)(O:Sc)(J:Loc)(a r:LH)(k:Nat)(o:List To)(b:List Stmt)(eE:Pl->Loc)(l1:Pl->LH)(F:Loc->LH->Prop)(_:∀x,F (eE x) (l1 x)):Prop:=I5 (goN pe n) O (b.take k) J ⟨a,r,o⟩ λfl J s=>wh (isNext fl) (kept s (F J))
theorem PX.zdn{eE:Pl->Loc}{l1:Pl->LH}(g:Pl->Pl->Pl)(h:PX pe n O b1 b2 J L eE l1)(d:∀x,XS pe n O (eE x) b2 (l1 x) (λy=>fl (g x y)) (λy=>dI (g x y)) λy=>l' (g x y)):XS pe n O J b1 L fl dI l':=λU P H a=>by
 obtain⟨x,H1,t,k⟩:=h P H a;obtain⟨y,H2,q,r⟩:=d x P H1 t.has;exact⟨g x y,H2,k _ _ _ q,t.trans r⟩
theorem PX.go{b:List Stmt}{eE:Pl->Loc}{a r:LH}(k:Nat)(o:List To){T7:∀F:Loc->LH->Prop,(∀x,F (eE x) (l1 x))->Prop}(h:∀F f,T7 F f)(e:zrP pe n O J a r k o b eE l1=T7:=by kernel_rfl):PX pe n O b (b.drop k) J (a++r) eE l1:=λU P H d=>by
 subst e;exact Nz (snd P n) (h (λl k=>∃x,l=eE x/\k=l1 x) λx=>⟨x,rfl,rfl⟩) d _ λlc U H' c t1 k1=>qM k1 t1 λi t2 ⟨x,h1,g⟩=>⟨x,H',g▸t2,λfl dI H2 e=>by
  rw[List.take_append_drop]at c;exact c _ _ _ (h1▸e)⟩
end
def Oj{α a:Type}{f g:α->Option a}{l:List α}(h:∀x∈l,f x=g x):l.filterMap f=l.filterMap g:=by
 induction l with
 |nil=>rfl
 |cons x l ih=>
  rw[cL,cL,h x cQ,ih λy b=>h y (List.mem_cons_of_mem _ b)]
theorem vO{α:Type}(xs:List α):((List.range xs.length).map λk=>xs.length-1-k).filterMap (xs[·]?)=xs.reverse:=by
 rw[List.filterMap_map];have:∀k∈List.range xs.length,((λx=>xs[x]?)∘λk=>xs.length-1-k) k=xs.reverse[k]?:=λk hk=>by
  show xs[xs.length-1-k]?=_;rw[List.getElem?_reverse (List.mem_range.mp hk)]
 rw[Oj this,<- cW];generalize xs.reverse=ys
 induction ys with
 |nil=>rfl
 |cons y ys ih=>
  rw[aO,List.range_succ_eq_map,cL];simp only[List.getElem?_cons_zero,List.filterMap_map];congr 1
theorem qg(xs:List V):jN xs none none (some (-1))=xs.reverse:=by
 unfold jN;rw[<- vO xs];congr 1;unfold sliceBounds sliceRange;simp only[Option.getD_some];simp only[show ¬ ((-1:Int)>0)from(),if_false];have e:(if(xs.length:Int)-1 > -1 then((xs.length:Int)-1 - -1 - -1-1)/(- -1)else 0).toNat=xs.length:=by
  by_cases h:(xs.length:Int)-1 > -1
  lia
  lia
 rw[e];refine cP λk hk=>?_;rw[Int.neg_mul,Int.one_mul,<- Int.sub_eq_add_neg,Int.sub_sub,Nat.sub_sub];exact Int.toNat_sub xs.length _
noncomputable def af7:Sc:=[("stack",.local)]
theorem Xv(P:eY (dK Y) cx){a:List Nat}{lv:Nat->List V}(h1:H.f i=.l (a.map .r))(m:∀j∈a,H.f j=.l (lv j))(o:∀j∈a,j<H.n)(hl:a.length<=1000)(h:(a.reverse.flatMap lv).length<=lim):gV cx (k+12) (.f 166) [.r i] [] H (.r (H.n+1)) ((H.alloc (.l (a.reverse.map .r))).alloc (.l (a.reverse.flatMap lv))):=by
 have hc:jN (a.map .r) none none (some (-1))=a.reverse.map .r:=by rw[qg,dD]
 have d:(H.alloc (.l (jN (a.map .r) none none (some (-1)))))=H.alloc (.l (a.reverse.map .r)):=by rw[hc]
 refine KD (iR P (Uh Y.P Y.sa Y.is) (Rc Y.P) (by rfl) (by rfl) (gW (Fi (afF P rfl rfl (sY P (iJ P rfl) oW oW (xQ (WW (n7 rfl))) (.list h1 () (by rw[aB];exact aK hl ()) d)) (jz (if_pos rfl)) rfl ?_ h rfl).1) rfl) rfl);have c:∀j∈a,items (H.alloc (.l (a.reverse.map .r))) (.r j)=some (lv j,some j):=λj b=>
  jz ((if_neg (aY (o j b))).trans (m j b))
 have e:a.reverse.flatMap lv=(a.reverse.map V.r).flatMap λx=>match x with|.r j=>lv j|_=>[]:=by rw[List.flatMap_map]
 rw[e];refine Hh (λx p=>?_) rfl;obtain⟨j,b,rfl⟩:=aF p;exact⟨_,rfl,.inl ⟨yu,Ni rfl (iJ P rfl) (c j (List.mem_reverse.mp b)) rfl (afz (λx U=>⟨_,rfl,yu,Nj (iJ P rfl)⟩) rfl)⟩⟩
def Sv(H:Hp)(j:Nat):List V:=(oL (H.f j)).getD []
theorem aaM{ug:List (Nat×List V)}(h1:(p,dN.l ((ug.map (·.1)).map .r))∈L)(h:∀x∈ug,(x.1,dN.l x.2)∈L)(hl:ug.length<=1000)(d:(ug.reverse.flatMap (·.2)).length<=lim):CC (dK Y) 12 (.f 166) [.r p] [] L (λx=>.r (x 0)) (λx=>L++[(x 0,.l (ug.reverse.flatMap (·.2)))]):=λU P H c=>by
 have g:∀x∈ug,x.1<H.n/\H.f x.1=.l x.2:=λx a=>c.el _ (h x a)
 have b:∀j∈ug.map (·.1),j<H.n/\H.f j=.l (Sv H j):=λj b=>by
  obtain⟨x,a,rfl⟩:=aF b;have e:=g x a;exact⟨e.1,by rw[Sv,e.2];rfl⟩
 have e:(ug.map (·.1)).reverse.flatMap (Sv H)=ug.reverse.flatMap (·.2):=by
  rw[<- dD,List.flatMap_map];rw[List.flatMap_def,List.flatMap_def];exact congrArg List.flatten (cP λx a=>by rw[Sv,(g x (List.mem_reverse.mp a)).2];rfl)
 refine⟨λU=>H.n+1,_,Xv P (k:=0) (c.el _ h1).2 (λj q=>(b j q).2) (λj q=>(b j q).1) (by rw[aB];exact hl) (by rw[e];exact d),?_⟩;rw[e];have t1:=Tp.new (o:=.l ((ug.map (·.1)).reverse.map .r)) c;exact((t1.trans (.new t1.has)).sub ((List.sublist_cons_self ..).cons_cons _)).to (c7 (l₁:=L) (l₂:=[(H.n+1,_)]))
structure Cf where
 st:Bool
 rw:Bool
 cm:Bool
 bl:Bool
 ba:Bool
noncomputable def eG:Str:="http://www.w3.org/XML/1998/namespace"
def mD:Str:="{"++eG++"}space"
noncomputable def gone:List Str:=["{v}x","{u}x"]
def Cf.lost(c:Cf):List Str:=bif c.bl then[mD,"{v}z","z"]else["{v}z","z"]
structure Q where
 i:Nat
 d:Nat
 o:Nat
 da:Nat
 ea:Nat
 et:Nat
 dc:Nat
 nn:Nat
 pm:Nat
 pr:Nat
def dW(q:Q){B:Prop}(y:B):q.i=q.i/\q.d=q.d/\B:=⟨rfl,rfl,y⟩
structure S5 where
 out:List V
 da:List V
 ds:List V
 ns:List V
 lv:Nat
 nv:Nat
 lp:List V
 np:List V
 pm:List (Str×V)
 pr:List V
 se:Bool
 dn:Bool
 ig:Int
def nsv(c:Cf)(q:Q)(se dn:Bool)(ig:Int):List (Str×V):=[("_write",.k .jh (.r q.o)),("_data",.r q.da),("_with_comments",.b c.cm),("_strip_text",.b c.st),("_exclude_attrs",.r q.ea),("_exclude_tags",.r q.et),("_rewrite_prefixes",.b c.rw),("_qname_aware_tags",.n),("_find_qname_aware_attrs",.n),("_declared_ns_stack",.r q.dc),("_ns_stack",.r q.nn),("_prefix_map",.r q.pm),("_preserve_space",.r q.pr),("_pending_start",.n),("_root_seen",.b se),("_root_done",.b dn),("_ignored_depth",.i ig),("_iter_namespaces",.f 166)]
def tg(c:Cf)(q:Q)(s:S5):LH:=[(0,.t 116 fP),(q.i,.i 143 q.d),(q.d,.n (nsv c q s.se s.dn s.ig)),(q.o,.l s.out),(q.da,.l s.da),(q.ea,.e c.lost),(q.et,.e gone),(q.dc,.l (s.ds++[.r s.lv])),(q.nn,.l (s.ns++[.r s.nv])),(q.pm,.d s.pm),(q.pr,.l s.pr),(s.lv,.l s.lp),(s.nv,.l s.np)]
noncomputable abbrev fX:List Nat:=List.range 13
theorem gQ:atIdx (xs++[x]) (-1)=some x:=by
 unfold atIdx;rw[if_neg (by simp),if_neg (),if_pos (by rw[aC];show(1:Int)<=((xs.length+1:Nat):Int);lia),aC];show(xs++[x])[((xs.length+1:Nat)+(-1:Int)).toNat]?=_;rw[show((xs.length+1:Nat)+(-1:Int)).toNat=xs.length by lia];simp
structure yW (pe:Pe) (f:Addr) (k:Nat) (kn:List Str) (ps:List (Str×Src)) (O:Sc) (body:List Stmt):Prop where
 go:∃fd,pe.fn f=some fd/\pe.sig f k kn ps/\fd.body=.stmts body/\fd.scope.names=O
abbrev fQ(Y:Z)(f:Addr):List Stmt:=aaN (hd.heap_39 Y.P) f
abbrev dZ(Y:Z)(f:Addr):Sc:=(jM (hd.heap_39 Y.P) f).scope.names
section
variable {pe:Pe} {n:Nat} {f:Addr} {ps:List (Str×Src)} {y:V} {l r:LH} {v:Pl->V}
def zrF(pe:Pe)(n:Nat)(ps:List (Str×Src))(O:Sc)(body:List Stmt)(args:List V)(kw:List (Str×V))(l r:LH)(o:List To)(v:Pl->V)(l':Pl->LH)(F:V->LH->Prop)(_:∀x,F (v x) (l' x)):Prop:=I5 (goN pe n) O body (ps.map λp=>(p.1,p.2.get args (kw.map (·.2)))) ⟨l,r,o⟩ λfl U s=>op (flV fl) λv=>kept s (F v)
theorem Run.go(i:yW pe f k kn ps O body)(hk:args.length=k)(a:kw.map (·.1)=kn)(o:List To){T7:∀F:V->LH->Prop,(∀x,F (v x) (l' x))->Prop}(h:∀F f,T7 F f)(e:zrF pe n ps O body args kw l r o v l'=T7:=by kernel_rfl):ZZ pe (λcx x H H'=>yU cx n f args kw H (v x) H') (l++r) l':=λcx P H j=>by
 subst e hk a;obtain⟨fd,h1,c,s,m⟩:=i.go;exact yt (snd P n) (h (λf k=>∃x,f=v x/\k=l' x) λx=>⟨x,rfl,rfl⟩) j _ λq U H' b t1 k1=>iI k1 λw d k2=>qM k2 t1 λk t2 ⟨x,p,g⟩=>⟨x,H',by show yU cx n f args kw H _ H';rw[<- p];exact iR P h1 c s m b d,g▸t2⟩
def CC.jZ(i:yW pe f k kn ps O body)(hk:args.length+1=k)(a:kw.map (·.1)=kn)(o:List To){T7:∀F:V->LH->Prop,(∀x,F (v x) (l' x))->Prop}(h:∀F f,T7 F f)(e:zrF pe n ps O body (y::args) kw l r o v l'=T7:=by kernel_rfl):CC pe (n+1) (.m f y) args kw (l++r) v l':=CC.mt (Run.go i hk a o h e)
def CC.goF(i:yW pe f k kn ps O body)(hk:args.length=k)(a:kw.map (·.1)=kn)(o:List To){T7:∀F:V->LH->Prop,(∀x,F (v x) (l' x))->Prop}(h:∀F f,T7 F f)(e:zrF pe n ps O body args kw l r o v l'=T7:=by kernel_rfl):CC pe (n+1) (.f f) args kw (l++r) v l':=CC.fn (Run.go i hk a o h e)
end
def Nr:yW (dK Y) 106 3 [] [("self",.arg 0),("prefix",.arg 1),("uri",.arg 2)] (dZ Y 106) (fQ Y 106):=⟨_,DX Y.P Y.sa Y.is,Cu Y.P,by kernel_rfl,rfl⟩
def Nv:yW (dK Y) 90 2 [] [("self",.arg 0),("data",.arg 1)] (dZ Y 90) (fQ Y 90):=⟨_,Uk Y.P Y.sa Y.is,Ri Y.P,by kernel_rfl,rfl⟩
def jY:yW (dK Y) 99 1 [] [("self",.arg 0),("_join_text",.dflt (.k .tG (.s "")))] (dZ Y 99) (fQ Y 99):=⟨_,Oh Y.P Y.sa Y.is,Ko Y.P,by kernel_rfl,rfl⟩
def sU:yW (dK Y) 113 3 [] [("self",.arg 0),("tag",.arg 1),("attrs",.arg 2)] (dZ Y 113) (fQ Y 113):=⟨_,Oe Y.P Y.sa Y.is,Kl Y.P,by kernel_rfl,rfl⟩
def Nu:yW (dK Y) 126 2 [] [("self",.arg 0),("tag",.arg 1)] (dZ Y 126) (fQ Y 126):=⟨_,aag Y.P Y.sa Y.is,Rh Y.P,by kernel_rfl,rfl⟩
def wK:yW (dK Y) 133 2 [] [("self",.arg 0),("text",.arg 1)] (dZ Y 133) (fQ Y 133):=⟨_,DY Y.P Y.sa Y.is,Cv Y.P,by kernel_rfl,rfl⟩
def qR:yW (dK Y) 140 3 [] [("self",.arg 0),("target",.arg 1),("data",.arg 2)] (dZ Y 140) (fQ Y 140):=⟨_,ael Y.P Y.sa Y.is,aci Y.P,by kernel_rfl,rfl⟩
def yr:yW (dK Y) 83 2 [] [("self",.arg 0),("qname",.arg 1),("uri",.dflt .n)] (dZ Y 83) (fQ Y 83):=⟨_,Og Y.P Y.sa Y.is,Km Y.P,by kernel_rfl,rfl⟩
def ZM:yW (dK Y) 60 2 ["strip_text","rewrite_prefixes","with_comments","exclude_tags","exclude_attrs"] Nh (dZ Y 60) (fQ Y 60):=⟨_,Uj Y.P Y.sa Y.is,Rg Y.P,by kernel_rfl,rfl⟩
def Wx:yW (dK Y) 173 1 [] [("key",.arg 0)] (dZ Y 173) (fQ Y 173):=⟨_,aae Y.P Y.sa Y.is,X3 Y.P,by kernel_rfl,rfl⟩
def Nt:yW (dK Y) 180 2 [] [("key",.arg 0),("prefixes",.arg 1)] (dZ Y 180) (fQ Y 180):=⟨_,Ui Y.P Y.sa Y.is,Rf Y.P,by kernel_rfl,rfl⟩
def mU(x:Str):(Txt.strip x).length<=x.length:=by
 unfold Txt.strip Txt.stripBy;by_cases h:stripSame Unicode.isSpace true true x=true
 ·rw[if_pos h];exact bT _
 ·rw[if_neg h];show(x.cps.extract _ _).size<=x.cps.size;rw[Array.size_extract];exact aK (Nat.sub_le ..) (Nat.min_le_right ..)
def To.ec(y:Str)(r:LH):To:=.call 12 [] (λU U=>.s y) (λU U=>[]) (λU U=>r)
def To.me(n:Nat)(v:V)(a r:LH):To:=.call n (List.range 13) (λU U=>v) (λU U=>a) (λU U=>r)
def yd:0<=lim:=bN _
def rF(h:n<1000000):n<lim:=cA h ()
def oH(h:n<1000000):n<=lim:=cj (rF h)
noncomputable abbrev jn(l:List Str):Str:=Txt.join cJ l
noncomputable def pZ(c:Cf)(pb:Bool)(x:Str):Str:=bif c.st&&!pb then Txt.strip x else x
def flO(se:Bool)(y:Str):List V:=bif y.length !=0&&se then[.s (eV y)]else[]
variable {c:Cf} {q:Q} {s2:S5}
section
open To
variable {s:S5} {R:LH}
def aaE(b:s.da.length<1000):CC (dK Y) 31 (.m 90 (.r q.i)) [.s x] [] (tg c q {s with ig:=0}++R) (λnw=>.n) (λnw=>tg c q {s with ig:=0,da:=s.da++[.s x]}++R):=CC.jZ Nv rfl rfl [n 1,n 0,n 1,n 4,.keep fX] (λU f=>dW q<|dW q<|dH q.da<|dH q.da<|a (rF (cA b ()))<|f (λU=>0))
def aaD(h:(s.ig !=0)=true):CC (dK Y) 31 (.m 90 (.r q.i)) [.s x] [] (tg c q s++R) (λnw=>.n) (λnw=>tg c q s++R):=CC.jZ Nv rfl rfl [n 1,.n 1,.keep fX] (λU f=>dW q<|a (h)<|f (λU=>0))
theorem WK(hl:strsOf s.da=some l)(g:JoinOk cJ l=true)(hd:s.da.length<1000000)(h:(jn l).length<100000)(hc:c.st=false)(d:((jn l).length !=0)=false):CC (dK Y) 31 (.m 99 (.r q.i)) [] [] (tg c q s++R) (λnw=>.n) (λnw=>tg c q {s with da:=[]}++R):=by
 have e:=cA h (show 100000<1000000 by decide);exact CC.jZ jY rfl rfl [n 1,n 4,.strs l,n 1,n 4,n 1,.n 2,n 1,n 0,.n 2,.keep fX] (λU f=>dW q<|dH q.da<|a (hl)<|a (g)<|dW q<|dH q.da<|a (oH hd)<|dW q<|a (hc)<|dW q<|a (oH e)<|a (d)<|f (λU=>0))
theorem aeu(hl:strsOf s.da=some l)(h:JoinOk cJ l=true)(hd:s.da.length<1000000)(j:(jn l).length<100000)(hc:c.st=true)(hp:atIdx s.pr (-1)=some (.b true))(e:((jn l).length !=0)=false):CC (dK Y) 31 (.m 99 (.r q.i)) [] [] (tg c q s++R) (λnw=>.n) (λnw=>tg c q {s with da:=[]}++R):=by
 have g:=cA j (show 100000<1000000 by decide);exact CC.jZ jY rfl rfl [n 1,n 4,.strs l,n 1,n 4,n 1,.n 1,n 1,n 10,.val λU=>.b true,n 0,n 1,n 0,.n 2,.keep fX] (λU f=>dW q<|dH q.da<|a (hl)<|a (h)<|dW q<|dH q.da<|a (oH hd)<|dW q<|a (hc)<|dW q<|dH q.pr<|a (hp)<|dW q<|a (oH g)<|a (e)<|f (λU=>0))
theorem aep(hl:strsOf s.da=some l)(j:JoinOk cJ l=true)(hd:s.da.length<1000000)(e:(jn l).length<100000)(hc:c.st=true)(hp:atIdx s.pr (-1)=some (.b false))(g:((Txt.strip (jn l)).length !=0)=false):CC (dK Y) 31 (.m 99 (.r q.i)) [] [] (tg c q s++R) (λnw=>.n) (λnw=>tg c q {s with da:=[]}++R):=by
 have h:=cA (aU (mU _) e) (show 100000<1000000 by decide);exact CC.jZ jY rfl rfl [n 1,n 4,.strs l,n 1,n 4,n 1,.n 1,n 1,n 10,.val λU=>.b false,n 0,n 1,n 0,.n 2,.keep fX] (λU f=>dW q<|dH q.da<|a (hl)<|a (j)<|dW q<|dH q.da<|a (oH hd)<|dW q<|a (hc)<|dW q<|dH q.pr<|a (hp)<|a (oH (cA e ()))<|dW q<|a (oH h)<|a (g)<|f (λU=>0))
theorem WD(hl:strsOf s.da=some l)(g:JoinOk cJ l=true)(hd:s.da.length<1000000)(j:(jn l).length<100000)(hc:c.st=false)(d:((jn l).length !=0)=true)(h:s.se=false):CC (dK Y) 31 (.m 99 (.r q.i)) [] [] (tg c q s++R) (λnw=>.n) (λnw=>tg c q {s with da:=[]}++R):=by
 have e:=cA j (show 100000<1000000 by decide);exact CC.jZ jY rfl rfl [n 1,n 4,.strs l,n 1,n 4,n 1,.n 2,n 1,n 0,.n 1,n 1,.n 2,.keep fX] (λU f=>dW q<|dH q.da<|a (hl)<|a (g)<|dW q<|dH q.da<|a (oH hd)<|dW q<|a (hc)<|dW q<|a (oH e)<|a (d)<|dW q<|a (h)<|f (λU=>0))
theorem aes(hl:strsOf s.da=some l)(h:JoinOk cJ l=true)(hd:s.da.length<1000000)(k:(jn l).length<100000)(hc:c.st=true)(hp:atIdx s.pr (-1)=some (.b true))(e:((jn l).length !=0)=true)(j:s.se=false):CC (dK Y) 31 (.m 99 (.r q.i)) [] [] (tg c q s++R) (λnw=>.n) (λnw=>tg c q {s with da:=[]}++R):=by
 have g:=cA k (show 100000<1000000 by decide);exact CC.jZ jY rfl rfl [n 1,n 4,.strs l,n 1,n 4,n 1,.n 1,n 1,n 10,.val λU=>.b true,n 0,n 1,n 0,.n 1,n 1,.n 2,.keep fX] (λU f=>dW q<|dH q.da<|a (hl)<|a (h)<|dW q<|dH q.da<|a (oH hd)<|dW q<|a (hc)<|dW q<|dH q.pr<|a (hp)<|dW q<|a (oH g)<|a (e)<|dW q<|a (j)<|f (λU=>0))
theorem aeo(hl:strsOf s.da=some l)(j:JoinOk cJ l=true)(hd:s.da.length<1000000)(e:(jn l).length<100000)(hc:c.st=true)(hp:atIdx s.pr (-1)=some (.b false))(g:((Txt.strip (jn l)).length !=0)=true)(k:s.se=false):CC (dK Y) 31 (.m 99 (.r q.i)) [] [] (tg c q s++R) (λnw=>.n) (λnw=>tg c q {s with da:=[]}++R):=by
 have h:=cA (aU (mU _) e) (show 100000<1000000 by decide);exact CC.jZ jY rfl rfl [n 1,n 4,.strs l,n 1,n 4,n 1,.n 1,n 1,n 10,.val λU=>.b false,n 0,n 1,n 0,.n 1,n 1,.n 2,.keep fX] (λU f=>dW q<|dH q.da<|a (hl)<|a (j)<|dW q<|dH q.da<|a (oH hd)<|dW q<|a (hc)<|dW q<|dH q.pr<|a (hp)<|a (oH (cA e ()))<|dW q<|a (oH h)<|a (g)<|dW q<|a (k)<|f (λU=>0))
theorem Wz(hl:strsOf s.da=some l)(g:JoinOk cJ l=true)(hd:s.da.length<1000000)(j:(jn l).length<100000)(hc:c.st=false)(d:((jn l).length !=0)=true)(h:s.se=true)(ho:s.out.length<1000000):CC (dK Y) 31 (.m 99 (.r q.i)) [] [] (tg c q s++R) (λnw=>.n) (λnw=>tg c q {s with da:=[],out:=s.out++[.s (eV (jn l))]}++R):=by
 have b:=j;exact CC.jZ jY rfl rfl [n 1,n 4,.strs l,n 1,n 4,n 1,.n 2,n 1,n 0,.n 1,n 1,.n 1,n 1,.ec (eV (jn l)) R,n 3,.keep fX] (λU f=>dW q<|dH q.da<|a (hl)<|a (g)<|dW q<|dH q.da<|a (oH hd)<|dW q<|a (hc)<|dW q<|a (oH (cA b (show 100000<1000000 by decide)))<|a (d)<|dW q<|a (h)<|dW q<|a (nD Y R (cj b))<|λ(k:Pl)=>dH q.o<|dH q.o<|a (rF ho)<|f (λU=>0))
theorem aer(hl:strsOf s.da=some l)(h:JoinOk cJ l=true)(hd:s.da.length<1000000)(k:(jn l).length<100000)(hc:c.st=true)(hp:atIdx s.pr (-1)=some (.b true))(e:((jn l).length !=0)=true)(j:s.se=true)(ho:s.out.length<1000000):CC (dK Y) 31 (.m 99 (.r q.i)) [] [] (tg c q s++R) (λnw=>.n) (λnw=>tg c q {s with da:=[],out:=s.out++[.s (eV (jn l))]}++R):=by
 have d:=k;exact CC.jZ jY rfl rfl [n 1,n 4,.strs l,n 1,n 4,n 1,.n 1,n 1,n 10,.val λU=>.b true,n 0,n 1,n 0,.n 1,n 1,.n 1,n 1,.ec (eV (jn l)) R,n 3,.keep fX] (λU f=>dW q<|dH q.da<|a (hl)<|a (h)<|dW q<|dH q.da<|a (oH hd)<|dW q<|a (hc)<|dW q<|dH q.pr<|a (hp)<|dW q<|a (oH (cA d (show 100000<1000000 by decide)))<|a (e)<|dW q<|a (j)<|dW q<|a (nD Y R (cj d))<|λ(p:Pl)=>dH q.o<|dH q.o<|a (rF ho)<|f (λU=>0))
theorem aen(hl:strsOf s.da=some l)(j:JoinOk cJ l=true)(hd:s.da.length<1000000)(e:(jn l).length<100000)(hc:c.st=true)(hp:atIdx s.pr (-1)=some (.b false))(g:((Txt.strip (jn l)).length !=0)=true)(k:s.se=true)(ho:s.out.length<1000000):CC (dK Y) 31 (.m 99 (.r q.i)) [] [] (tg c q s++R) (λnw=>.n) (λnw=>tg c q {s with da:=[],out:=s.out++[.s (eV (Txt.strip (jn l)))]}++R):=by
 have d:=aU (mU _) e;exact CC.jZ jY rfl rfl [n 1,n 4,.strs l,n 1,n 4,n 1,.n 1,n 1,n 10,.val λU=>.b false,n 0,n 1,n 0,.n 1,n 1,.n 1,n 1,.ec (eV (Txt.strip (jn l))) R,n 3,.keep fX] (λU f=>dW q<|dH q.da<|a (hl)<|a (j)<|dW q<|dH q.da<|a (oH hd)<|dW q<|a (hc)<|dW q<|dH q.pr<|a (hp)<|a (oH (cA e ()))<|dW q<|a (oH (cA d (show 100000<1000000 by decide)))<|a (g)<|dW q<|a (k)<|dW q<|a (nD Y R (cj d))<|λ(p:Pl)=>dH q.o<|dH q.o<|a (rF ho)<|f (λU=>0))
end
section
open To
variable {s:S5} {R:LH}
def adF{n:Nat}(h:n<1000000)(e:m=n+1):m<lim:=e▸aU h ()
def ig0{i:Int}(h:i=0):(i !=0)=false:=by rw[h];rfl
def u1:1<=lim:=fM rfl
def u2:2<=lim:=fM rfl
def u3:3<=lim:=fM rfl
def u4:4<=lim:=fM rfl
def u5:5<=lim:=fM rfl
def es(a:x.length<100000):(eV x).length<=lim:=aK (lM ()) ()
def c1(a:Str)(b:a.length<=1000)(c:x.length<100000):a.length+(eV x).length<=lim:=aK (dg b (lM ())) ()
def c2(a b:Str)(c:a.length<=1000)(hb:b.length<=1000)(d:x.length<100000):(a++eV x).length+b.length<=lim:=by
 rw[fJ];exact aK (dg (dg c (lM ())) hb) ()
def oLt(x:V)(h:l.length<1000000):(l++[x]).length<lim:=adF h aC
theorem aaj{K:List V->Prop}(h0:(y.length !=0)=false->K s.out)(h1:(y.length !=0)=true->s.se=false->K s.out)(a:(y.length !=0)=true->s.se=true->K (s.out++[.s (eV y)])):K (s.out++flO s.se y):=by
 unfold flO;cases hy:y.length !=0 with
 |false=>rw[show(bif _ then[V.s (eV y)]else[])=[]from rfl,aX];exact h0 hy
 |true=>
  cases hs:s.se with
  |false=>rw[show(bif _ then[V.s (eV y)]else[])=[]from rfl,aX];exact h1 hy hs
  |true=>exact a hy hs
structure Dat (s:S5) (l:List Str) (pb:Bool):Prop where
 hl:strsOf s.da=some l
 hj:JoinOk cJ l=true
 hd:s.da.length<1000000
 hx:(jn l).length<100000
 hp:atIdx s.pr (-1)=some (.b pb)
 ho:s.out.length<1000000
def S5.fl(s:S5)(c:Cf)(l:List Str)(pb:Bool):S5:={s with da:=[],out:=s.out++flO s.se (pZ c pb (jn l))}
theorem lV(Y:Z)(c:Cf)(q:Q)(R:LH)(h:Dat s l pb):CC (dK Y) 31 (.m 99 (.r q.i)) [] [] (tg c q s++R) (λU=>.n) (λU=>tg c q (s.fl c l pb)++R):=by
 obtain⟨hl,d,hd,b,hp,ho⟩:=h;refine aaj (K:=λo=>CC _ 31 _ [] [] _ _ (λU=>tg c q {s with da:=[],out:=o}++R)) ?_ ?_ ?_ <;> unfold pZ <;> cases hc:c.st <;> cases pb <;> intro a
 exact WK hl d hd b hc a
 exact WK hl d hd b hc a
 exact aep hl d hd b hc hp a
 exact aeu hl d hd b hc hp a
 exact WD hl d hd b hc a
 exact WD hl d hd b hc a
 exact aeo hl d hd b hc hp a
 exact aes hl d hd b hc hp a
 exact λe=>Wz hl d hd b hc a e ho
 exact λe=>Wz hl d hd b hc a e ho
 exact λe=>aen hl d hd b hc hp a e ho
 exact λe=>aer hl d hd b hc hp a e ho
def ab9(h:(s.ig !=0)=true):CC (dK Y) 41 (.m 106 (.r q.i)) [.s p,.s u] [] (tg c q s++R) (λnw=>.n) (λnw=>tg c q s++R):=CC.jZ Nr rfl rfl [n 1,.n 1,.keep fX] (λU f=>dW q<|a (h)<|f (λU=>0))
theorem ace(b:s.np.length<1000000):CC (dK Y) 41 (.m 106 (.r q.i)) [.s p,.s u] [] (tg c q {s with da:=[],ig:=0}++R) (λnw=>.n) (λnw=>tg c q {s with da:=[],ig:=0,np:=s.np++[.t [.s u,.s p]]}++R):=CC.jZ Nr rfl rfl [n 1,n 0,n 1,n 4,n 0,n 1,n 8,.val λU=>.r s.nv,n 12,.keep fX] (λU f=>dW q<|dW q<|dH q.da<|a (yd)<|dW q<|dH q.nn<|a (gQ (xs:=s.ns) (x:=.r s.nv))<|dH s.nv<|dH s.nv<|a (rF b)<|f (λU=>0))
theorem acd(h:Dat s l pb)(b:(!s.da.isEmpty)=true)(hi:s.ig=0)(d:s.np.length<1000000):CC (dK Y) 41 (.m 106 (.r q.i)) [.s p,.s u] [] (tg c q s++R) (λnw=>.n) (λnw=>tg c q {s.fl c l pb with np:=s.np++[.t [.s u,.s p]]}++R):=CC.jZ Nr rfl rfl [n 1,.n 2,n 1,n 4,.n 1,n 1,.me 31 .n (tg c q (s.fl c l pb)) R,n 1,n 8,.val λU=>.r s.nv,n 12,.keep fX] (λU f=>dW q<|a (ig0 hi)<|dW q<|dH q.da<|a (oH h.hd)<|a (b)<|dW q<|a (lV Y c q R h)<|λ(e:Pl)=>dW q<|dH q.nn<|a (gQ (xs:=s.ns) (x:=.r s.nv))<|dH s.nv<|dH s.nv<|a (rF d)<|f (λU=>0))
def aft(h:c.cm=false):CC (dK Y) 46 (.m 133 (.r q.i)) [.s x] [] (tg c q s++R) (λnw=>.n) (λnw=>tg c q s++R):=CC.jZ wK rfl rfl [n 1,.n 2,.keep fX] (λU f=>dW q<|a (h)<|f (λU=>0))
def afu(hc:c.cm=true)(h:(s.ig !=0)=true):CC (dK Y) 46 (.m 133 (.r q.i)) [.s x] [] (tg c q s++R) (λnw=>.n) (λnw=>tg c q s++R):=CC.jZ wK rfl rfl [n 1,.n 1,n 1,.n 1,.keep fX] (λU f=>dW q<|a (hc)<|dW q<|a (h)<|f (λU=>0))
def YD{x:Str}(h:(s.ig !=0)=true):CC (dK Y) 46 (.m 140 (.r q.i)) [.s t,v] [] (tg c q s++R) (λnw=>.n) (λnw=>tg c q s++R):=CC.jZ qR rfl rfl [n 1,.n 1,.keep fX] (λU f=>dW q<|a (h)<|f (λU=>0))
theorem afx(hc:c.cm=true)(b:x.length<100000)(ho:s.out.length<1000000):CC (dK Y) 46 (.m 133 (.r q.i)) [.s x] [] (tg c q {s with dn:=true,se:=true,ig:=0}++R) (λnw=>.n) (λnw=>tg c q {s with dn:=true,se:=true,ig:=0,out:=s.out++[.s "\n"]++[.s (cJ++"<!--"++eV x++"-->")]}++R):=CC.jZ wK rfl rfl [n 1,.n 1,n 1,n 0,n 1,n 0,n 1,n 3,n 1,.ec (eV x) R,n 3,n 1,n 0,.keep fX] (λU f=>dW q<|a (hc)<|dW q<|dW q<|dW q<|dH q.o<|dH q.o<|a (rF ho)<|dW q<|a (u4)<|a (nD Y R (cj b))<|λ(d:Pl)=>a (es b)<|a (c1 (cJ++"<!--") (fM rfl) b)<|a (c2 (cJ++"<!--") "-->" (fM rfl) (fM rfl) b)<|dH q.o<|dH q.o<|a (oLt (.s "\n") ho)<|dW q<|f (λU=>0))
theorem afs(hc:c.cm=true)(b:x.length<100000)(ho:s.out.length<1000000):CC (dK Y) 46 (.m 133 (.r q.i)) [.s x] [] (tg c q {s with dn:=false,se:=false,ig:=0}++R) (λnw=>.n) (λnw=>tg c q {s with dn:=false,se:=false,ig:=0,out:=s.out++[.s (cJ++"<!--"++eV x++"-->")]++[.s "\n"]}++R):=CC.jZ wK rfl rfl [n 1,.n 1,n 1,n 0,n 1,n 0,n 1,n 0,n 1,.ec (eV x) R,n 3,n 1,n 0,n 1,n 3,.keep fX] (λU f=>dW q<|a (hc)<|dW q<|dW q<|dW q<|dW q<|a (u4)<|a (nD Y R (cj b))<|λ(d:Pl)=>a (es b)<|a (c1 (cJ++"<!--") (fM rfl) b)<|a (c2 (cJ++"<!--") "-->" (fM rfl) (fM rfl) b)<|dH q.o<|dH q.o<|a (rF ho)<|dW q<|dW q<|dH q.o<|dH q.o<|a (oLt (.s (cJ++"<!--"++eV x++"-->")) ho)<|f (λU=>0))
theorem afw(hc:c.cm=true)(b:x.length<100000)(ho:s.out.length<1000000):CC (dK Y) 46 (.m 133 (.r q.i)) [.s x] [] (tg c q {s with dn:=false,se:=true,ig:=0,da:=[]}++R) (λnw=>.n) (λnw=>tg c q {s with dn:=false,se:=true,ig:=0,da:=[],out:=s.out++[.s (cJ++"<!--"++eV x++"-->")]}++R):=CC.jZ wK rfl rfl [n 1,.n 1,n 1,n 0,n 1,n 0,n 1,n 0,n 1,n 4,n 0,n 1,.ec (eV x) R,n 3,n 1,n 0,.keep fX] (λU f=>dW q<|a (hc)<|dW q<|dW q<|dW q<|dW q<|dH q.da<|a (yd)<|dW q<|a (u4)<|a (nD Y R (cj b))<|λ(d:Pl)=>a (es b)<|a (c1 (cJ++"<!--") (fM rfl) b)<|a (c2 (cJ++"<!--") "-->" (fM rfl) (fM rfl) b)<|dH q.o<|dH q.o<|a (rF ho)<|dW q<|f (λU=>0))
theorem afv (hc:c.cm=true)(d:x.length<100000)(h:Dat s l pb)(j:(!s.da.isEmpty)=true)(hi:s.ig=0)(b:s.se=true)(g:s.dn=false)(e:(s.fl c l pb).out.length<1000000):CC (dK Y) 46 (.m 133 (.r q.i)) [.s x] [] (tg c q s++R) (λnw=>.n) (λnw=>tg c q {s.fl c l pb with out:=(s.fl c l pb).out++[.s (cJ++"<!--"++eV x++"-->")]}++R):=CC.jZ wK rfl rfl [n 1,.n 1,n 1,.n 2,n 1,.n 2,n 1,.n 1,n 1,n 4,.n 1,n 1,.me 31 .n (tg c q (s.fl c l pb)) R,n 1,.ec (eV x) R,n 3,n 1,.n 1,.keep fX] (λU f=>dW q<|a (hc)<|dW q<|a (ig0 hi)<|dW q<|a (g)<|dW q<|a (b)<|dW q<|dH q.da<|a (oH h.hd)<|a (j)<|dW q<|a (lV Y c q R h)<|λ(p:Pl)=>dW q<|a (u4)<|a (nD Y R (cj d))<|λ(k:Pl)=>a (es d)<|a (c1 (cJ++"<!--") (fM rfl) d)<|a (c2 (cJ++"<!--") "-->" (fM rfl) (fM rfl) d)<|dH q.o<|dH q.o<|a (rF e)<|dW q<|a (b)<|f (λU=>0))
theorem acI{x:Str}(ho:s.out.length<1000000):CC (dK Y) 46 (.m 140 (.r q.i)) [.s "t",.n] [] (tg c q {s with dn:=true,se:=true,ig:=0}++R) (λnw=>.n) (λnw=>tg c q {s with dn:=true,se:=true,ig:=0,out:=s.out++[.s "\n"]++[.s (cJ++"<?"++"t"++"?>")]}++R):=CC.jZ qR rfl rfl [n 1,n 0,n 1,n 0,n 1,n 3,n 1,n 0,n 3,n 1,n 0,.keep fX] (λU f=>dW q<|dW q<|dW q<|dH q.o<|dH q.o<|a (rF ho)<|dW q<|a (u2)<|a (u1)<|a (u3)<|a (u5)<|dH q.o<|dH q.o<|a (oLt (.s "\n") ho)<|dW q<|f (λU=>0))
theorem acF{x:Str}(ho:s.out.length<1000000):CC (dK Y) 46 (.m 140 (.r q.i)) [.s "t",.n] [] (tg c q {s with dn:=false,se:=false,ig:=0}++R) (λnw=>.n) (λnw=>tg c q {s with dn:=false,se:=false,ig:=0,out:=s.out++[.s (cJ++"<?"++"t"++"?>")]++[.s "\n"]}++R):=CC.jZ qR rfl rfl [n 1,n 0,n 1,n 0,n 1,n 0,n 1,n 0,n 3,n 1,n 0,n 1,n 3,.keep fX] (λU f=>dW q<|dW q<|dW q<|dW q<|a (u2)<|a (u1)<|a (u3)<|a (u5)<|dH q.o<|dH q.o<|a (rF ho)<|dW q<|dW q<|dH q.o<|dH q.o<|a (oLt (.s (cJ++"<?"++"t"++"?>")) ho)<|f (λU=>0))
theorem acH{x:Str}(ho:s.out.length<1000000):CC (dK Y) 46 (.m 140 (.r q.i)) [.s "t",.n] [] (tg c q {s with dn:=false,se:=true,ig:=0,da:=[]}++R) (λnw=>.n) (λnw=>tg c q {s with dn:=false,se:=true,ig:=0,da:=[],out:=s.out++[.s (cJ++"<?"++"t"++"?>")]}++R):=CC.jZ qR rfl rfl [n 1,n 0,n 1,n 0,n 1,n 0,n 1,n 4,n 0,n 1,n 0,n 3,n 1,n 0,.keep fX] (λU f=>dW q<|dW q<|dW q<|dW q<|dH q.da<|a (yd)<|dW q<|a (u2)<|a (u1)<|a (u3)<|a (u5)<|dH q.o<|dH q.o<|a (rF ho)<|dW q<|f (λU=>0))
theorem acG{x:Str} (h:Dat s l pb)(g:(!s.da.isEmpty)=true)(hi:s.ig=0)(b:s.se=true)(e:s.dn=false)(d:(s.fl c l pb).out.length<1000000):CC (dK Y) 46 (.m 140 (.r q.i)) [.s "t",.n] [] (tg c q s++R) (λnw=>.n) (λnw=>tg c q {s.fl c l pb with out:=(s.fl c l pb).out++[.s (cJ++"<?"++"t"++"?>")]}++R):=CC.jZ qR rfl rfl [n 1,.n 2,n 1,.n 2,n 1,.n 1,n 1,n 4,.n 1,n 1,.me 31 .n (tg c q (s.fl c l pb)) R,n 1,n 0,n 3,n 1,.n 1,.keep fX] (λU f=>dW q<|a (ig0 hi)<|dW q<|a (e)<|dW q<|a (b)<|dW q<|dH q.da<|a (oH h.hd)<|a (g)<|dW q<|a (lV Y c q R h)<|λ(j:Pl)=>dW q<|a (u2)<|a (u1)<|a (u3)<|a (u5)<|dH q.o<|dH q.o<|a (rF d)<|dW q<|a (b)<|f (λU=>0))
theorem acQ{x:Str}(ho:s.out.length<1000000):CC (dK Y) 46 (.m 140 (.r q.i)) [.s "t",.s ""] [] (tg c q {s with dn:=true,se:=true,ig:=0}++R) (λnw=>.n) (λnw=>tg c q {s with dn:=true,se:=true,ig:=0,out:=s.out++[.s "\n"]++[.s (cJ++"<?"++"t"++"?>")]}++R):=CC.jZ qR rfl rfl [n 1,n 0,n 1,n 0,n 1,n 3,n 1,n 0,n 3,n 1,n 0,.keep fX] (λU f=>dW q<|dW q<|dW q<|dH q.o<|dH q.o<|a (rF ho)<|dW q<|a (yd)<|a (u2)<|a (u1)<|a (u3)<|a (u5)<|dH q.o<|dH q.o<|a (oLt (.s "\n") ho)<|dW q<|f (λU=>0))
theorem acN{x:Str}(ho:s.out.length<1000000):CC (dK Y) 46 (.m 140 (.r q.i)) [.s "t",.s ""] [] (tg c q {s with dn:=false,se:=false,ig:=0}++R) (λnw=>.n) (λnw=>tg c q {s with dn:=false,se:=false,ig:=0,out:=s.out++[.s (cJ++"<?"++"t"++"?>")]++[.s "\n"]}++R):=CC.jZ qR rfl rfl [n 1,n 0,n 1,n 0,n 1,n 0,n 1,n 0,n 3,n 1,n 0,n 1,n 3,.keep fX] (λU f=>dW q<|dW q<|dW q<|dW q<|a (yd)<|a (u2)<|a (u1)<|a (u3)<|a (u5)<|dH q.o<|dH q.o<|a (rF ho)<|dW q<|dW q<|dH q.o<|dH q.o<|a (oLt (.s (cJ++"<?"++"t"++"?>")) ho)<|f (λU=>0))
theorem acP{x:Str}(ho:s.out.length<1000000):CC (dK Y) 46 (.m 140 (.r q.i)) [.s "t",.s ""] [] (tg c q {s with dn:=false,se:=true,ig:=0,da:=[]}++R) (λnw=>.n) (λnw=>tg c q {s with dn:=false,se:=true,ig:=0,da:=[],out:=s.out++[.s (cJ++"<?"++"t"++"?>")]}++R):=CC.jZ qR rfl rfl [n 1,n 0,n 1,n 0,n 1,n 0,n 1,n 4,n 0,n 1,n 0,n 3,n 1,n 0,.keep fX] (λU f=>dW q<|dW q<|dW q<|dW q<|dH q.da<|a (yd)<|dW q<|a (yd)<|a (u2)<|a (u1)<|a (u3)<|a (u5)<|dH q.o<|dH q.o<|a (rF ho)<|dW q<|f (λU=>0))
theorem acO{x:Str} (h:Dat s l pb)(g:(!s.da.isEmpty)=true)(hi:s.ig=0)(b:s.se=true)(e:s.dn=false)(d:(s.fl c l pb).out.length<1000000):CC (dK Y) 46 (.m 140 (.r q.i)) [.s "t",.s ""] [] (tg c q s++R) (λnw=>.n) (λnw=>tg c q {s.fl c l pb with out:=(s.fl c l pb).out++[.s (cJ++"<?"++"t"++"?>")]}++R):=CC.jZ qR rfl rfl [n 1,.n 2,n 1,.n 2,n 1,.n 1,n 1,n 4,.n 1,n 1,.me 31 .n (tg c q (s.fl c l pb)) R,n 1,n 0,n 3,n 1,.n 1,.keep fX] (λU f=>dW q<|a (ig0 hi)<|dW q<|a (e)<|dW q<|a (b)<|dW q<|dH q.da<|a (oH h.hd)<|a (g)<|dW q<|a (lV Y c q R h)<|λ(j:Pl)=>dW q<|a (yd)<|a (u2)<|a (u1)<|a (u3)<|a (u5)<|dH q.o<|dH q.o<|a (rF d)<|dW q<|a (b)<|f (λU=>0))
theorem acM(b:x.length<100000)(d:(x.length !=0)=true)(ho:s.out.length<1000000):CC (dK Y) 46 (.m 140 (.r q.i)) [.s "t",.s x] [] (tg c q {s with dn:=true,se:=true,ig:=0}++R) (λnw=>.n) (λnw=>tg c q {s with dn:=true,se:=true,ig:=0,out:=s.out++[.s "\n"]++[.s (cJ++"<?"++"t"++" "++eV x++"?>")]}++R):=CC.jZ qR rfl rfl [n 1,n 0,n 1,n 0,n 1,n 3,n 1,.n 1,.ec (eV x) R,n 3,n 1,n 0,.keep fX] (λU f=>dW q<|dW q<|dW q<|dH q.o<|dH q.o<|a (rF ho)<|dW q<|a (oH (cA b ()))<|a (d)<|a (u2)<|a (u1)<|a (u3)<|a (u4)<|a (nD Y R (cj b))<|λ(e:Pl)=>a (es b)<|a (c1 (cJ++"<?"++"t"++" ") (fM rfl) b)<|a (c2 (cJ++"<?"++"t"++" ") "?>" (fM rfl) (fM rfl) b)<|dH q.o<|dH q.o<|a (oLt (.s "\n") ho)<|dW q<|f (λU=>0))
theorem acJ(b:x.length<100000)(d:(x.length !=0)=true)(ho:s.out.length<1000000):CC (dK Y) 46 (.m 140 (.r q.i)) [.s "t",.s x] [] (tg c q {s with dn:=false,se:=false,ig:=0}++R) (λnw=>.n) (λnw=>tg c q {s with dn:=false,se:=false,ig:=0,out:=s.out++[.s (cJ++"<?"++"t"++" "++eV x++"?>")]++[.s "\n"]}++R):=CC.jZ qR rfl rfl [n 1,n 0,n 1,n 0,n 1,n 0,n 1,.n 1,.ec (eV x) R,n 3,n 1,n 0,n 1,n 3,.keep fX] (λU f=>dW q<|dW q<|dW q<|dW q<|a (oH (cA b ()))<|a (d)<|a (u2)<|a (u1)<|a (u3)<|a (u4)<|a (nD Y R (cj b))<|λ(e:Pl)=>a (es b)<|a (c1 (cJ++"<?"++"t"++" ") (fM rfl) b)<|a (c2 (cJ++"<?"++"t"++" ") "?>" (fM rfl) (fM rfl) b)<|dH q.o<|dH q.o<|a (rF ho)<|dW q<|dW q<|dH q.o<|dH q.o<|a (oLt (.s (cJ++"<?"++"t"++" "++eV x++"?>")) ho)<|f (λU=>0))
theorem acL(b:x.length<100000)(d:(x.length !=0)=true)(ho:s.out.length<1000000):CC (dK Y) 46 (.m 140 (.r q.i)) [.s "t",.s x] [] (tg c q {s with dn:=false,se:=true,ig:=0,da:=[]}++R) (λnw=>.n) (λnw=>tg c q {s with dn:=false,se:=true,ig:=0,da:=[],out:=s.out++[.s (cJ++"<?"++"t"++" "++eV x++"?>")]}++R):=CC.jZ qR rfl rfl [n 1,n 0,n 1,n 0,n 1,n 0,n 1,n 4,n 0,n 1,.n 1,.ec (eV x) R,n 3,n 1,n 0,.keep fX] (λU f=>dW q<|dW q<|dW q<|dW q<|dH q.da<|a (yd)<|dW q<|a (oH (cA b ()))<|a (d)<|a (u2)<|a (u1)<|a (u3)<|a (u4)<|a (nD Y R (cj b))<|λ(e:Pl)=>a (es b)<|a (c1 (cJ++"<?"++"t"++" ") (fM rfl) b)<|a (c2 (cJ++"<?"++"t"++" ") "?>" (fM rfl) (fM rfl) b)<|dH q.o<|dH q.o<|a (rF ho)<|dW q<|f (λU=>0))
theorem acK (d:x.length<100000)(j:(x.length !=0)=true)(h:Dat s l pb)(k:(!s.da.isEmpty)=true)(hi:s.ig=0)(b:s.se=true)(g:s.dn=false)(e:(s.fl c l pb).out.length<1000000):CC (dK Y) 46 (.m 140 (.r q.i)) [.s "t",.s x] [] (tg c q s++R) (λnw=>.n) (λnw=>tg c q {s.fl c l pb with out:=(s.fl c l pb).out++[.s (cJ++"<?"++"t"++" "++eV x++"?>")]}++R):=CC.jZ qR rfl rfl [n 1,.n 2,n 1,.n 2,n 1,.n 1,n 1,n 4,.n 1,n 1,.me 31 .n (tg c q (s.fl c l pb)) R,n 1,.n 1,.ec (eV x) R,n 3,n 1,.n 1,.keep fX] (λU f=>dW q<|a (ig0 hi)<|dW q<|a (g)<|dW q<|a (b)<|dW q<|dH q.da<|a (oH h.hd)<|a (k)<|dW q<|a (lV Y c q R h)<|λ(t:Pl)=>dW q<|a (oH (cA d ()))<|a (j)<|a (u2)<|a (u1)<|a (u3)<|a (u4)<|a (nD Y R (cj d))<|λ(p:Pl)=>a (es d)<|a (c1 (cJ++"<?"++"t"++" ") (fM rfl) d)<|a (c2 (cJ++"<?"++"t"++" ") "?>" (fM rfl) (fM rfl) d)<|dH q.o<|dH q.o<|a (rF e)<|dW q<|a (b)<|f (λU=>0))
end
section
open To
variable {s:S5} {R:LH}
noncomputable def e0:Expr:=.Constant .none 0 ⟨0,0,0,0⟩
set_option backward.match.sparseCases false in
def sv:Stmt->Expr×List Stmt×List Stmt×Expr
 |.For t i b e _=>(t,b,e,i)
 |.If c b e _=>(c,b,e,c)
 |.Assign _ e _=>(e,[],[],e)
 |.AugAssign _ _ e _=>(e,[],[],e)
 |.Expr e _=>(e,[],[],e)
 |.Return (some e) _=>(e,[],[],e)
 |_=>(e0,[],[],e0)
def sO(o:Option Stmt):Expr×List Stmt×List Stmt×Expr:=o.elim (e0,[],[],e0) sv
def uP(o:Option Stmt):Expr:=(sO o).1
def gJ(o:Option Stmt):List Stmt:=(sO o).2.1
def Ud(o:Option Stmt):Expr:=(sO o).2.2.2
noncomputable def jW(q:Q)(nm uri tag:Str)(m:Nat):Loc:=[("self",.r q.i),("qname",.s nm),("uri",.s uri),("tag",.s tag),("prefixes_seen",.r m)]
noncomputable def gZ(q:Q)(nm uri tag:Str)(m:Nat)(u p:Str):Loc:=[("self",.r q.i),("qname",.s nm),("uri",.s uri),("tag",.s tag),("prefixes_seen",.r m),("u",.s u),("prefix",.s p)]
noncomputable def pv(p:Str×Str):V:=.t [.s p.1,.s p.2]
def scan(uri:Str):List (Str×Str)->List Str->Option Str×List Str
 |[],ks=>(none,ks)
 |(u,p)::r,ks=>if u=uri/\p∉ks then(some p,ks)else scan uri r (iG ks p)
noncomputable def lF(p tag:Str):Str:=if p.length=0 then tag else cJ++p++":"++tag
def cl1(b:x.length<1000)(a:y.length<1000):(cJ++x++":").length+y.length<=lim:=by
 rw[fJ,dh];exact aK (dg () (cj a)) ()
def cl0(a:x.length<1000):(cJ++x).length+(":":Str).length<=lim:=by
 rw[dh];exact aK () ()
def cle{x:Str}(a:x.length<1000):Str.empty.length+x.length<=lim:=aK (dg (show Str.empty.length<=0 from fM rfl) (cj a)) ()
def lz{p:Str}(a:(p.length !=0)=false):p.length<=lim:=by
 have h:p.length=0:=by simpa using a
 rw[h];exact bN _
def Iw{n:Nat}(h:n<1000):n<lim:=cA h ()
def lL{n:Nat}(h:n<1000):n<=lim:=aK (cj h) ()
def agX{k:List Str}(c:(u==uri)=true)(hp:(!k.contains p)=true)(b:(p.length !=0)=false):XS (dK Y) 30 (dZ Y 83) (gZ q nm uri tag m u p) (gJ (fQ Y 83)[2]?) ([(m,.e k)]++R) (λnw=>.ret (.t [.s tag,.s tag,.s uri])) (λnw=>gZ q nm uri tag m u p) (λnw=>[(m,.e k)]++R):=XS.go [.n 1,n 0,.n 1,.n 2,.keep [0]] (λU f=>a (c)<|dH m<|a (hp)<|a (lz b)<|a (b)<|f (λU=>0))
theorem agW{k:List Str}(d:(u==uri)=true)(hp:(!k.contains p)=true)(c:(p.length !=0)=true)(hl:p.length<1000)(b:tag.length<1000):XS (dK Y) 30 (dZ Y 83) (gZ q nm uri tag m u p) (gJ (fQ Y 83)[2]?) ([(m,.e k)]++R) (λnw=>.ret (.t [.s (cJ++p++":"++tag),.s tag,.s uri])) (λnw=>gZ q nm uri tag m u p) (λnw=>[(m,.e k)]++R):=XS.go [.n 1,n 0,.n 1,.n 1,.keep [0]] (λU f=>a (d)<|dH m<|a (hp)<|a (lL hl)<|a (c)<|a (lL hl)<|a (cle hl)<|a (cl0 hl)<|a (lL b)<|a (cl1 hl b)<|f (λU=>0))
def agV{k:List Str}(b:(u==uri)=false)(hk:k.length<1000):XS (dK Y) 30 (dZ Y 83) (gZ q nm uri tag m u p) (gJ (fQ Y 83)[2]?) ([(m,.e k)]++R) (λnw=>.next) (λnw=>gZ q nm uri tag m u p) (λnw=>[(m,.e (iG k p))]++R):=XS.go [.n 2,n 0,.keep [0]] (λU f=>a (b)<|dH m<|dH m<|a (hk)<|f (λU=>0))
def agU{k:List Str}(b:(u==uri)=true)(hp:(!k.contains p)=false)(hk:k.length<1000):XS (dK Y) 30 (dZ Y 83) (gZ q nm uri tag m u p) (gJ (fQ Y 83)[2]?) ([(m,.e k)]++R) (λnw=>.next) (λnw=>gZ q nm uri tag m u p) (λnw=>[(m,.e (iG k p))]++R):=XS.go [.n 1,n 0,.n 2,n 0,.keep [0]] (λU f=>a (b)<|dH m<|a (hp)<|dH m<|dH m<|a (hk)<|f (λU=>0))
theorem ag0(d:(u==uri)=true)(b:(p.length !=0)=false)(hd:s.lp.length<1000):XS (dK Y) 30 (dZ Y 83) (gZ q nm uri tag m u p) (gJ (fQ Y 83)[5]?) (tg c q s++R) (λnw=>.ret (.t [.s tag,.s tag,.s uri])) (λnw=>gZ q nm uri tag m u p) (λnw=>tg c q {s with lp:=s.lp++[.t [.s uri,.s p]]}++R):=XS.go [.n 1,n 1,n 7,.val λU=>.r s.lv,n 11,.n 2,.keep fX] (λU f=>a (d)<|dW q<|dH q.dc<|a (gQ (xs:=s.ds) (x:=.r s.lv))<|dH s.lv<|dH s.lv<|a (Iw hd)<|a (lz b)<|a (b)<|f (λU=>0))
theorem agZ(e:(u==uri)=true)(d:(p.length !=0)=true)(hd:s.lp.length<1000)(hl:p.length<1000)(b:tag.length<1000):XS (dK Y) 30 (dZ Y 83) (gZ q nm uri tag m u p) (gJ (fQ Y 83)[5]?) (tg c q s++R) (λnw=>.ret (.t [.s (cJ++p++":"++tag),.s tag,.s uri])) (λnw=>gZ q nm uri tag m u p) (λnw=>tg c q {s with lp:=s.lp++[.t [.s uri,.s p]]}++R):=XS.go [.n 1,n 1,n 7,.val λU=>.r s.lv,n 11,.n 1,.keep fX] (λU f=>a (e)<|dW q<|dH q.dc<|a (gQ (xs:=s.ds) (x:=.r s.lv))<|dH s.lv<|dH s.lv<|a (Iw hd)<|a (lL hl)<|a (d)<|a (lL hl)<|a (cle hl)<|a (cl0 hl)<|a (lL b)<|a (cl1 hl b)<|f (λU=>0))
def agY(b:(u==uri)=false):XS (dK Y) 30 (dZ Y 83) (gZ q nm uri tag m u p) (gJ (fQ Y 83)[5]?) (tg c q s++R) (λnw=>.next) (λnw=>gZ q nm uri tag m u p) (λnw=>tg c q s++R):=XS.go [.n 2,.keep fX] (λU f=>a (b)<|f (λU=>0))
end
section
open To
variable {s:S5} {R:LH}
def Mr(ks:List Str)(k:Str):(iG ks k).length<=ks.length+1:=by
 unfold iG;split <;> simp
def Ab:∀z v,(jW q nm uri tag m).lookup z=some v->(gZ q nm uri tag m u p).lookup z=some v:=ux
def SQ{p:Str}(h:p.length=0):(p.length !=0)=false:=by rw[h];rfl
def vH{p:Str}(h:¬ p.length=0):(p.length !=0)=true:=bne_iff_ne.mpr h
def ntc{k:List Str}(h:p∉k):(!k.contains p)=true:=by simpa using h
def tct{k:List Str}(h:p∈k):(!k.contains p)=false:=by simpa using h
theorem Yr(d:tag.length<1000):∀{k:List Str},k.length+ps.length<1000->(∀p∈ps,p.2.length<1000)->FT (dK Y) 30 (dZ Y 83) (uP (fQ Y 83)[2]?) (gJ (fQ Y 83)[2]?) (ps.map pv) (jW q nm uri tag m) [(m,.e k)]
  (λU=>(scan uri ps k).1.elim .next λp=>.ret (.t [.s (lF p tag),.s tag,.s uri])) (λU=>(scan uri ps k).1.elim (jW q nm uri tag m) λp=>gZ q nm uri tag m uri p) (λU=>[(m,.e (scan uri ps k).2)]):=by
 induction ps with
 |nil=>exact λU U=>FT.nil
 |cons up ps ih=>
  intro k hk hl;obtain⟨u,p⟩:=up;by_cases h:u=uri/\p∉k
  rw[show scan uri ((u,p)::ps) k=(some p,k)from if_pos h];obtain⟨rfl,a⟩:=h;show FT _ _ _ _ _ _ _ _ (λU=>.ret _) _ _;by_cases h0:p.length=0
  rw[show lF p tag=tag from if_pos h0];exact FT.ret (λU U=>rfl) (agX () (ntc a) (SQ h0))
  rw[show lF p tag=cJ++p++":"++tag from if_neg h0];exact FT.ret (λU U=>rfl) (agW () (ntc a) (vH h0) (hl _ (.head _)) d)
  rw[show scan uri ((u,p)::ps) k=scan uri ps _ from if_neg h];rw[aO]at hk;have f:=Mr k p;have go:=(ih (k:=iG k p) () λy c=>hl y (.tail _ c)).forget (J:=gZ q nm uri tag m u p) Ab;by_cases b:u=uri
  exact FT.cons (λU U=>rfl) (agU () (tct ()) ()) (λU=>rfl) λU=>go
  exact FT.cons (λU U=>rfl) (agV () ()) (λU=>rfl) λU=>go
theorem Ys(b:tag.length<1000)(hd:s.lp.length<1000):(∀p∈ps,p.2.length<1000)->FT (dK Y) 30 (dZ Y 83) (uP (fQ Y 83)[5]?) (gJ (fQ Y 83)[5]?) (ps.map pv) (jW q nm uri tag m) (tg c q s++R) (λU=>(ps.lookup uri).elim .next λp=>.ret (.t [.s (lF p tag),.s tag,.s uri])) (λU=>(ps.lookup uri).elim (jW q nm uri tag m) λp=>gZ q nm uri tag m uri p) (λU=>(ps.lookup uri).elim (tg c q s++R) λp=>tg c q {s with lp:=s.lp++[.t [.s uri,.s p]]}++R):=by
 induction ps with
 |nil=>exact λU=>FT.nil
 |cons up ps ih=>
  intro hl;obtain⟨u,p⟩:=up;have hp:=hl _ (.head _);by_cases h:u=uri
  ·subst h;rw[show((u,p)::ps).lookup u=some p by rw[bx,bA]];show FT _ _ _ _ _ _ _ _ (λU=>.ret _) _ _;by_cases h0:p.length=0
   ·rw[show lF p tag=tag from if_pos h0];exact FT.ret (λU U=>rfl) (ag0 (bA u) (SQ h0) hd)
   ·rw[show lF p tag=cJ++p++":"++tag from if_neg h0];exact FT.ret (λU U=>rfl) (agZ (bA u) (vH h0) hd hp b)
  ·rw[show((u,p)::ps).lookup uri=ps.lookup uri by rw[bx,bB (Ne.symm h)]];exact FT.cons (λU U=>rfl) (agY (bB h)) (λU=>rfl) λU=>(ih λy a=>hl y (.tail _ a)).forget Ab
structure rO (ids:List V) (top:Nat) (tp:List V) (R:LH) (ps:List (Str×Str)):Prop where
 ex:∃ug:List (Nat×List V),ug.map (λx=>V.r x.1)=ids/\(∀x∈ug,(x.1,dN.l x.2)∈R)/\tp++ug.reverse.flatMap (·.2)=ps.map pv
 few:ids.length<900
 small:ps.length<900
 short:∀p∈ps,p.2.length<1000
theorem rO.walk{a:List V}{c:List V}(h:rO a top c R ps)(h1:(p,dN.l (a++[.r top]))∈L)(g:(top,dN.l c)∈L)(h3:∀x∈R,x∈L):CC (dK Y) 12 (.f 166) [.r p] [] L (λx=>.r (x 0)) (λx=>L++[(x 0,.l (ps.map pv))]):=by
 obtain⟨⟨ug,d,k,j⟩,m,i,_⟩:=h;have e:(ug++[(top,c)]).reverse.flatMap (·.2)=ps.map pv:=by rw[<- j];simp
 have:=aaM (Y:=Y) (ug:=ug++[(top,c)]) (by rw[aR,aH];show(p,dN.l (ug.map (λx=>V.r x.1)++[.r top]))∈L;rw[d];exact h1) (λx b=>?_) (by rw[aC,<- aB,d];show a.length+1<=1000;lia) (by rw[e,aB];exact aK (cj i) ())
 rwa [e]at this
 rcases aD b with b|b
 exact h3 _ (k x b)
 cases au b;exact g
def mTg(h:x∈tg c q s):x∈tg c q s++R:=cH _ h
def Xg(Y:Z)(c:Cf)(q:Q)(h:rO s.ds s.lv s.lp R ps):CC (dK Y) 12 (.f 166) [.r q.dc] [] (tg c q s++R) (λx=>.r (x 0)) (λx=>tg c q s++R++[(x 0,.l (ps.map pv))]):=
 h.walk (mTg (bY (i:=7) rfl)) (mTg (bY (i:=11) rfl)) λx=>aG _
def agt(Y:Z)(c:Cf)(q:Q)(h:rO s.ns s.nv s.np R ps):CC (dK Y) 12 (.f 166) [.r q.nn] [] (tg c q s++R) (λx=>.r (x 0)) (λx=>tg c q s++R++[(x 0,.l (ps.map pv))]):=
 h.walk (mTg (bY (i:=8) rfl)) (mTg (bY (i:=12) rfl)) λx=>aG _
def ahK{k:List Str}(h:rO s.ds s.lv s.lp R ps):EE (dK Y) 30 (dZ Y 83) (jW q nm uri tag m) (Ud (fQ Y 83)[2]?) (tg c q s++[(m,.e k)]++R) (λnw=>.r (nw 0)) (λnw=>tg c q s++[(m,.e k)]++R++[(nw 0,.l (ps.map pv))]):=EE.go [n 1,n 1,.call 12 (List.range 13) (λU x=>.r (x 0)) (λU U=>tg c q s) (λU x=>R++[(x 0,.l (ps.map pv))]),.keep (List.range 14)] (λU f=>dW q<|dW q<|a (Xg Y c q h)<|λb=>f (b))
def ahJ{k:List Str}(h:rO s.ns s.nv s.np R ps):EE (dK Y) 30 (dZ Y 83) (jW q nm uri tag m) (Ud (fQ Y 83)[5]?) (tg c q s++[(m,.e k)]++R) (λnw=>.r (nw 0)) (λnw=>tg c q s++[(m,.e k)]++R++[(nw 0,.l (ps.map pv))]):=EE.go [n 1,n 1,.call 12 (List.range 13) (λU x=>.r (x 0)) (λU U=>tg c q s) (λU x=>R++[(x 0,.l (ps.map pv))]),.keep (List.range 14)] (λU f=>dW q<|dW q<|a (agt Y c q h)<|λb=>f (b))
noncomputable def fs(o:Option Stmt):Stmt:=o.getD (.Pass ⟨0,0,0,0⟩)
def mid{A R:LH}:(A++[x]++R).Perm ([x]++(A++R)):=by
 rw[aQ];exact cG
theorem Jw(Y:Z)(c:Cf)(q:Q)(nm uri tag:Str)(m:Nat)(k:List Str)(h:rO s.ds s.lv s.lp R ps)(a:tag.length<1000)(hk:k.length<100):XX (dK Y) 31 (dZ Y 83) (jW q nm uri tag m) (fs (fQ Y 83)[2]?) (tg c q s++[(m,.e k)]++R) (λU=>(scan uri ps k).1.elim .next λp=>.ret (.t [.s (lF p tag),.s tag,.s uri])) (λU=>(scan uri ps k).1.elim (jW q nm uri tag m) λp=>gZ q nm uri tag m uri p) (λU=>tg c q s++[(m,.e (scan uri ps k).2)]++R):=
 XX.Z9 rfl (ahK h) (((Yr a (by have:=h.small;lia) h.short).frame).perm mid λU=>mid)
theorem abk(Y:Z)(c:Cf)(q:Q)(nm uri tag:Str)(m:Nat)(k:List Str)(h:rO s.ns s.nv s.np R ps)(a:tag.length<1000)(hd:s.lp.length<1000):XX (dK Y) 31 (dZ Y 83) (jW q nm uri tag m) (fs (fQ Y 83)[5]?) (tg c q s++[(m,.e k)]++R) (λU=>(ps.lookup uri).elim .next λp=>.ret (.t [.s (lF p tag),.s tag,.s uri])) (λU=>(ps.lookup uri).elim (jW q nm uri tag m) λp=>gZ q nm uri tag m uri p) (λU=>(ps.lookup uri).elim (tg c q s++R) (λp=>tg c q {s with lp:=s.lp++[.t [.s uri,.s p]]}++R)):=
 ZZ.weak (XX.Z9 rfl (ahJ h) (((Ys a hd h.short).frame).perm (by
  rw[aQ];exact List.perm_append_comm.append_left _) λU=>.refl _)) λU=>cY ..
end
section
open To
variable {s:S5} {R:LH}
noncomputable def nI(k:Nat):Str:=cJ++"n"++(toString (k:Int):String)
def adk(h:k<10):(k:Int).natAbs.log2<1920:=(by decide+kernel:∀k<10,((k:Nat):Int).natAbs.log2<1920) k h
def adi(h:k<10):(cJ++"n").length+(Str.ofString (toString (k:Int))).length<=lim:=(by decide+kernel:∀k<10,(cJ++"n").length+(Str.ofString (toString _)).length<=lim) k h
def uc(h:k<10):(nI k).length<1000:=(by decide+kernel:∀k<10,(nI k).length<1000) k h
structure Jp (nm uri tag:Str) (br:Bool):Prop where
 b:(Txt.slice nm none (some 1)=="{")=br
 sp:br=true->some (Txt.rsplitMax (Txt.slice nm (some 1) none) "}" 1)=some [uri,tag]
 nb:br=false->uri=""/\tag=nm
 ln:nm.length<1000
 ls:(Txt.slice nm (some 1) none).length<1000
 lt:tag.length<1000
def Jp.rs(h:Jp nm uri tag br):("}":Str).length≠0/\(Txt.slice nm (some 1) none).length+2<=lim/\(0:Int)<=1/\(1:Int)<1000:=⟨(),aK (Nat.add_le_add_right (cj h.ls) 2) (),(),()⟩
def abl(Y:Z)(c:Cf)(q:Q)(nm:Str)(m:Nat)(h:rO s.ds s.lv s.lp R ps)(a:tag.length<1000)(b:(scan uri ps []).1=some p):XX (dK Y) 31 (dZ Y 83) (jW q nm uri tag m) (fs (fQ Y 83)[2]?) (tg c q s++[(m,.e [])]++R) (λU=>.ret (.t [.s (lF p tag),.s tag,.s uri])) (λU=>gZ q nm uri tag m uri p) (λU=>tg c q s++[(m,.e (scan uri ps []).2)]++R):=by
 have:=Jw Y c q nm uri tag m [] h a ()
 rwa [b]at this
def Ca(Y:Z)(c:Cf)(q:Q)(nm:Str)(m:Nat)(h:rO s.ds s.lv s.lp R ps)(a:tag.length<1000)(b:(scan uri ps []).1=none):XX (dK Y) 31 (dZ Y 83) (jW q nm uri tag m) (fs (fQ Y 83)[2]?) (tg c q s++[(m,.e [])]++R) (λU=>.next) (λU=>jW q nm uri tag m) (λU=>tg c q s++[(m,.e (scan uri ps []).2)]++R):=by
 have:=Jw Y c q nm uri tag m [] h a ()
 rwa [b]at this
def ags(Y:Z)(c:Cf)(q:Q)(nm:Str)(m:Nat)(k:List Str)(h:rO s.ns s.nv s.np R ps)(a:tag.length<1000)(hd:s.lp.length<1000)(b:ps.lookup uri=none):XX (dK Y) 31 (dZ Y 83) (jW q nm uri tag m) (fs (fQ Y 83)[5]?) (tg c q s++[(m,.e k)]++R) (λU=>.next) (λU=>jW q nm uri tag m) (λU=>tg c q s++R):=by
 have:=abk Y c q nm uri tag m k h a hd
 rwa [b]at this
theorem ag2(d:Jp nm uri tag true)(hd:rO s.ds s.lv s.lp R ps)(j:(scan uri ps []).1=some p):CC (dK Y) 51 (.m 83 (.r q.i)) [.s nm] [] (tg c q s++R) (λnw=>.t [.s (lF p tag),.s tag,.s uri]) (λnw=>tg c q s++R):=CC.jZ yr rfl rfl [n 0,.n 1,.strs [uri,tag],n 13,.stm 31 ([0,1,2,3,4,5,6,7,8,9,10,11,12,14]) (λU U=>.ret (.t [.s (lF p tag),.s tag,.s uri])) (λz U=>gZ q nm uri tag (z 14) uri p) (λz U=>tg c q s++[(z 14,.e (scan uri ps []).2)]) (λU U=>R),.keep fX] (λU f=>a (lL d.ln)<|a (d.b)<|a (lL d.ln)<|a (d.rs)<|a (d.sp rfl)<|λh=>dH h<|λg=>a (abl Y c q nm g hd d.lt j)<|λ(m2:Pl)=>f (λU=>0))
theorem ag6(d:Jp nm uri tag true)(hd:rO s.ds s.lv s.lp R ps)(k:(scan uri ps []).1=none)(hc:c.rw=true)(hi:(s.pm.map (·.1)).contains uri=true)(hp:s.pm.lookup uri=some (.s p))(hl:p.length<1000)(g:s.lp.length<1000):CC (dK Y) 51 (.m 83 (.r q.i)) [.s nm] [] (tg c q s++R) (λnw=>.t [.s (cJ++p++":"++tag),.s tag,.s uri]) (λnw=>tg c q {s with lp:=s.lp++[.t [.s uri,.s p]]}++R):=CC.jZ yr rfl rfl [n 0,.n 1,.strs [uri,tag],n 13,.stm 31 ([0,1,2,3,4,5,6,7,8,9,10,11,12,14]) (λU U=>.next) (λz U=>jW q nm uri tag (z 14)) (λz U=>tg c q s++[(z 14,.e (scan uri ps []).2)]) (λU U=>R),n 1,.n 1,n 1,n 9,.n 1,n 1,n 9,.val λU=>.s p,n 1,n 7,.val λU=>.r s.lv,n 11,.keep fX] (λU f=>a (lL d.ln)<|a (d.b)<|a (lL d.ln)<|a (d.rs)<|a (d.sp rfl)<|λj=>dH j<|λh=>a (Ca Y c q nm h hd d.lt k)<|λ(m2:Pl)=>dW q<|a (hc)<|dW q<|dH q.pm<|a (hi)<|dW q<|dH q.pm<|a (hp)<|dW q<|dH q.dc<|a (gQ (xs:=s.ds) (x:=.r s.lv))<|dH s.lv<|dH s.lv<|a (Iw g)<|a (lL hl)<|a (cle hl)<|a (cl0 hl)<|a (lL d.lt)<|a (cl1 hl d.lt)<|f (λU=>0))
theorem ag4(g:Jp nm uri tag true)(hd:rO s.ds s.lv s.lp R ps)(l:(scan uri ps []).1=none)(hc:c.rw=true)(hi:(s.pm.map (·.1)).contains uri=false)(d:s.pm.length<10)(h:s.lp.length<1000):CC (dK Y) 51 (.m 83 (.r q.i)) [.s nm] [] (tg c q s++R) (λnw=>.t [.s (cJ++nI s.pm.length++":"++tag),.s tag,.s uri]) (λnw=>tg c q {s with lp:=s.lp++[.t [.s uri,.s (nI s.pm.length)]],pm:=eO s.pm uri (.s (nI s.pm.length))}++R):=CC.jZ yr rfl rfl [n 0,.n 1,.strs [uri,tag],n 13,.stm 31 ([0,1,2,3,4,5,6,7,8,9,10,11,12,14]) (λU U=>.next) (λz U=>jW q nm uri tag (z 14)) (λz U=>tg c q s++[(z 14,.e (scan uri ps []).2)]) (λU U=>R),n 1,.n 1,n 1,n 9,.n 2,n 1,n 9,n 1,n 9,n 1,n 7,.val λU=>.r s.lv,n 11,.keep fX] (λU f=>a (lL g.ln)<|a (g.b)<|a (lL g.ln)<|a (g.rs)<|a (g.sp rfl)<|λk=>dH k<|λj=>a (Ca Y c q nm j hd g.lt l)<|λ(m2:Pl)=>dW q<|a (hc)<|dW q<|dH q.pm<|a (hi)<|a (u1)<|dW q<|dH q.pm<|a (lL (cA d ()))<|a (adk d)<|a (adi d)<|dW q<|dH q.pm<|a (Iw (cA d ()))<|dW q<|dH q.dc<|a (gQ (xs:=s.ds) (x:=.r s.lv))<|dH s.lv<|dH s.lv<|a (Iw h)<|a (lL (uc d))<|a (cle (uc d))<|a (cl0 (uc d))<|a (lL g.lt)<|a (cl1 (uc d) g.lt)<|f (λU=>0))
theorem ag1(d:Jp nm "" nm false)(hd:rO s.ds s.lv s.lp R ps)(h:(scan (Str.ofString "") ps []).1=some p):CC (dK Y) 51 (.m 83 (.r q.i)) [.s nm] [] (tg c q s++R) (λnw=>.t [.s (lF p nm),.s nm,.s (Str.ofString "")]) (λnw=>tg c q s++R):=CC.jZ yr rfl rfl [n 0,.n 2,.stm 31 ([0,1,2,3,4,5,6,7,8,9,10,11,12,13]) (λU U=>.ret (.t [.s (lF p nm),.s nm,.s (Str.ofString "")])) (λz U=>gZ q nm (Str.ofString "") nm (z 13) (Str.ofString "") p) (λz U=>tg c q s++[(z 13,.e (scan (Str.ofString "") ps []).2)]) (λU U=>R),.keep fX] (λU f=>a (lL d.ln)<|a (d.b)<|λg=>a (abl Y c q nm g hd d.lt h)<|λ(j:Pl)=>f (λU=>0))
theorem ag5(d:Jp nm "" nm false)(hd:rO s.ds s.lv s.lp R ps)(j:(scan (Str.ofString "") ps []).1=none)(hc:c.rw=true)(hi:(s.pm.map (·.1)).contains (Str.ofString "")=true)(hp:s.pm.lookup (Str.ofString "")=some (.s p))(hl:p.length<1000)(g:s.lp.length<1000):CC (dK Y) 51 (.m 83 (.r q.i)) [.s nm] [] (tg c q s++R) (λnw=>.t [.s (cJ++p++":"++nm),.s nm,.s (Str.ofString "")]) (λnw=>tg c q {s with lp:=s.lp++[.t [.s (Str.ofString ""),.s p]]}++R):=CC.jZ yr rfl rfl [n 0,.n 2,.stm 31 ([0,1,2,3,4,5,6,7,8,9,10,11,12,13]) (λU U=>.next) (λz U=>jW q nm (Str.ofString "") nm (z 13)) (λz U=>tg c q s++[(z 13,.e (scan (Str.ofString "") ps []).2)]) (λU U=>R),n 1,.n 1,n 1,n 9,.n 1,n 1,n 9,.val λU=>.s p,n 1,n 7,.val λU=>.r s.lv,n 11,.keep fX] (λU f=>a (lL d.ln)<|a (d.b)<|λh=>a (Ca Y c q nm h hd d.lt j)<|λ(k:Pl)=>dW q<|a (hc)<|dW q<|dH q.pm<|a (hi)<|dW q<|dH q.pm<|a (hp)<|dW q<|dH q.dc<|a (gQ (xs:=s.ds) (x:=.r s.lv))<|dH s.lv<|dH s.lv<|a (Iw g)<|a (lL hl)<|a (cle hl)<|a (cl0 hl)<|a (lL d.lt)<|a (cl1 hl d.lt)<|f (λU=>0))
theorem ag3(g:Jp nm "" nm false)(hd:rO s.ds s.lv s.lp R ps)(k:(scan (Str.ofString "") ps []).1=none)(hc:c.rw=true)(hi:(s.pm.map (·.1)).contains (Str.ofString "")=false)(d:s.pm.length<10)(h:s.lp.length<1000):CC (dK Y) 51 (.m 83 (.r q.i)) [.s nm] [] (tg c q s++R) (λnw=>.t [.s (cJ++nI s.pm.length++":"++nm),.s nm,.s (Str.ofString "")]) (λnw=>tg c q {s with lp:=s.lp++[.t [.s (Str.ofString ""),.s (nI s.pm.length)]],pm:=eO s.pm (Str.ofString "") (.s (nI s.pm.length))}++R):=CC.jZ yr rfl rfl [n 0,.n 2,.stm 31 ([0,1,2,3,4,5,6,7,8,9,10,11,12,13]) (λU U=>.next) (λz U=>jW q nm (Str.ofString "") nm (z 13)) (λz U=>tg c q s++[(z 13,.e (scan (Str.ofString "") ps []).2)]) (λU U=>R),n 1,.n 1,n 1,n 9,.n 2,n 1,n 9,n 1,n 9,n 1,n 7,.val λU=>.r s.lv,n 11,.keep fX] (λU f=>a (lL g.ln)<|a (g.b)<|λj=>a (Ca Y c q nm j hd g.lt k)<|λ(l:Pl)=>dW q<|a (hc)<|dW q<|dH q.pm<|a (hi)<|a (u1)<|dW q<|dH q.pm<|a (lL (cA d ()))<|a (adk d)<|a (adi d)<|dW q<|dH q.pm<|a (Iw (cA d ()))<|dW q<|dH q.dc<|a (gQ (xs:=s.ds) (x:=.r s.lv))<|dH s.lv<|dH s.lv<|a (Iw h)<|a (lL (uc d))<|a (cle (uc d))<|a (cl0 (uc d))<|a (lL g.lt)<|a (cl1 (uc d) g.lt)<|f (λU=>0))
theorem qc(d:Jp nm "" nm false)(hd:rO s.ds s.lv s.lp R ps)(h:(scan (Str.ofString "") ps []).1=none)(hc:c.rw=false)(hk:(!(scan (Str.ofString "") ps []).2.contains (Str.ofString ""))=true):CC (dK Y) 51 (.m 83 (.r q.i)) [.s nm] [] (tg c q s++R) (λnw=>.t [.s nm,.s nm,.s (Str.ofString "")]) (λnw=>tg c q s++R):=CC.jZ yr rfl rfl [n 0,.n 2,.stm 31 ([0,1,2,3,4,5,6,7,8,9,10,11,12,13]) (λU U=>.next) (λz U=>jW q nm (Str.ofString "") nm (z 13)) (λz U=>tg c q s++[(z 13,.e (scan (Str.ofString "") ps []).2)]) (λU U=>R),n 1,.n 2,n 0,n 13,.n 1,.keep fX] (λU f=>a (lL d.ln)<|a (d.b)<|λg=>a (Ca Y c q nm g hd d.lt h)<|λ(j:Pl)=>dW q<|a (hc)<|a (yd)<|dH g<|a (hk)<|f (λU=>0))
theorem qd(d:Jp nm uri tag true)(hd:rO s.ds s.lv s.lp R ps)(u:(scan uri ps []).1=none)(hc:c.rw=false)(o:(uri.length !=0)=true)(h:uri.length<1000)(k:rO s.ns s.nv s.np R pn)(g:s.lp.length<1000)(hp:pn.lookup uri=some p):CC (dK Y) 51 (.m 83 (.r q.i)) [.s nm] [] (tg c q s++R) (λnw=>.t [.s (lF p tag),.s tag,.s uri]) (λnw=>tg c q {s with lp:=s.lp++[.t [.s uri,.s p]]}++R):=CC.jZ yr rfl rfl [n 0,.n 1,.strs [uri,tag],n 13,.stm 31 ([0,1,2,3,4,5,6,7,8,9,10,11,12,14]) (λU U=>.next) (λz U=>jW q nm uri tag (z 14)) (λz U=>tg c q s++[(z 14,.e (scan uri ps []).2)]) (λU U=>R),n 1,.n 2,.n 1,.stm 31 ([0,1,2,3,4,5,6,7,8,9,10,11,12,14]) (λU U=>.ret (.t [.s (lF p tag),.s tag,.s uri])) (λz U=>gZ q nm uri tag (z 14) uri p) (λz U=>tg c q {s with lp:=s.lp++[.t [.s uri,.s p]]}) (λU U=>R),.keep fX] (λU f=>a (lL d.ln)<|a (d.b)<|a (lL d.ln)<|a (d.rs)<|a (d.sp rfl)<|λl=>dH l<|λj=>a (Ca Y c q nm j hd d.lt u)<|λ(m2:Pl)=>dW q<|a (hc)<|a (lL h)<|a (o)<|a ((by
 have:=abk Y c q nm uri tag j (scan uri ps []).2 k d.lt g
 rwa [hp]at this))<|λ(v:Pl)=>f (λU=>0))
theorem qe(d:Jp nm "" nm false)(hd:rO s.ds s.lv s.lp R ps)(k:(scan (Str.ofString "") ps []).1=none)(hc:c.rw=false)(hk:(!(scan (Str.ofString "") ps []).2.contains (Str.ofString ""))=false)(j:rO s.ns s.nv s.np R pn)(h:s.lp.length<1000)(hp:pn.lookup (Str.ofString "")=none):CC (dK Y) 51 (.m 83 (.r q.i)) [.s nm] [] (tg c q s++R) (λnw=>.t [.s nm,.s nm,.s (Str.ofString "")]) (λnw=>tg c q s++R):=CC.jZ yr rfl rfl [n 0,.n 2,.stm 31 ([0,1,2,3,4,5,6,7,8,9,10,11,12,13]) (λU U=>.next) (λz U=>jW q nm (Str.ofString "") nm (z 13)) (λz U=>tg c q s++[(z 13,.e (scan (Str.ofString "") ps []).2)]) (λU U=>R),n 1,.n 2,n 0,n 13,.n 2,.stm 31 ([0,1,2,3,4,5,6,7,8,9,10,11,12,13]) (λU U=>.next) (λz U=>jW q nm (Str.ofString "") nm (z 13)) (λz U=>tg c q s) (λU U=>R),n 0,.keep fX] (λU f=>a (lL d.ln)<|a (d.b)<|λg=>a (Ca Y c q nm g hd d.lt k)<|λ(l:Pl)=>dW q<|a (hc)<|a (yd)<|dH g<|a (hk)<|a (ags Y c q nm g (scan (Str.ofString "") ps []).2 j d.lt h hp)<|λ(m2:Pl)=>a (yd)<|f (λU=>0))
end
section
variable {s:S5} {R:LH}
def U5:List Str:=["","e","u","v",eG]
def pK(c:Cf)(u:Str):Str:=if u="e" then(bif c.ba then"n" else"")else if u="u" then"q" else if u="v" then"p" else if u=eG then"xml" else"?"
def Wc(A:List Str)(u:Str):Str:=if u=eG then"xml" else nI (A.idxOf u)
def pfx(c:Cf)(A:List Str)(u:Str):Str:=bif c.rw then Wc A u else pK c u
noncomputable def jC(A:List Str)(u:Str):List Str:=if u∈A then A else A++[u]
def nP(A:List Str):List (Str×V):=A.map λu=>(u,.s (nI (A.idxOf u)))
structure ju (A:List Str):Prop where
 nd:A.Nodup
 mem:∀u∈A,u∈U5/\u≠eG
def Qf{A:List Str}(h:ju A):A.length<=5:=List.Nodup.length_le_of_subset h.nd λu a=>(h.mem u a).1
def Za(hi:i<10)(a:j<10)(h:nI i=nI j):i=j:=
 (by decide+kernel:∀i<10,∀j<10,nI i=nI j->i=j) i hi j a h
def Lp(hi:i<10):nI i≠"xml":=(by decide+kernel:∀i<10,nI i≠"xml") i hi
def Y9(hi:i<10):(nI i).length≠0:=(by decide+kernel:∀i<10,(nI i).length≠0) i hi
def Ef(c:Cf)(A:List Str)(u:Str):Prop:=u∈U5/\(c.rw=true->u∈A\/u=eG)/\¬ (u=""/\c.rw=false)
def lY{A:List Str}(h:ju A)(u:Str):A.idxOf u<10:=aU List.idxOf_le_length (aU (Qf h) ())
def sJ{A:List Str}(h:u∈A):A[A.idxOf u]?=some u:=by
 induction A with
 |nil=>lia
 |cons a A ih=>
  rw[List.idxOf_cons];by_cases e:a=u
  rw[e,bA];rfl
  rw[bB e];exact ih ((aA h).resolve_left (Ne.symm e))
theorem RN{A:List Str}(h:ju A){v:Str}(g:Ef c A u)(k:v∈U5)(e:pfx c A u=pfx c A v):u=v:=by
 unfold pfx at e;cases hc:c.rw with
 |false=>
  rw[hc]at e;have key:∀b:Bool,∀u∈U5,∀v∈U5,pK ⟨false,false,false,false,b⟩ u=pK ⟨false,false,false,false,b⟩ v->u=v:=by lia
  exact key c.ba u g.1 v k e
 |true=>
  rw[hc]at e;unfold Wc at e;by_cases h1:u=eG
  by_cases d:v=eG
  rw[h1,d]
  rw[if_pos h1,if_neg d]at e;exact absurd e.symm (Lp (lY h v))
  rw[if_neg h1]at e;by_cases d:v=eG
  rw[if_pos d]at e;exact absurd e (Lp (lY h u))
  rw[if_neg d]at e;have i:=Za (lY h u) (lY h v) e;have f:=sJ ((g.2.1 hc).resolve_right h1);by_cases a:v∈A
  rw[i,(sJ a)]at f;exact(bh f).symm
  rw[i,List.idxOf_eq_length a]at f;rw[List.getElem?_eq_none (bT _)]at f;exact gB f
theorem Rn{f:Str->Str}:∀{k:List Str},(∀p∈ps,p.2=f p.1/\(f p.1=f uri->p.1=uri))->f uri∉k->(scan uri ps k).1=if uri∈ps.map (·.1)then some (f uri)else none:=by
 induction ps with
 |nil=>exact λU U=>rfl
 |cons up ps ih=>
  intro k h hk;obtain⟨u,p⟩:=up;obtain⟨h1,b⟩:=h _ (.head _);have h1:p=f u:=h1;subst h1;by_cases a:u=uri
  ·subst a;rw[show scan u ((u,f u)::ps) k=(some (f u),k)from if_pos ⟨rfl,hk⟩];exact(if_pos (cQ)).symm
  ·rw[show scan uri ((u,f u)::ps) k=scan uri ps (iG k (f u))from if_neg λq=>a q.1];rewrite [ih (λp hp=>h p (.tail _ hp)) ?_]
   ·have:(uri∈((u,f u)::ps).map (·.1))↔uri∈ps.map (·.1):=by
     rw[cC,List.mem_cons];exact⟨λq=>q.resolve_left λe=>a e.symm,.inr⟩
    by_cases hz:uri∈ps.map (·.1)
    ·rw[if_pos hz,if_pos (this.mpr hz)]
    ·rw[if_neg hz,if_neg λq=>hz (this.mp q)]
   ·unfold iG
    split
    ·exact hk
    ·exact λq=>(aA q).elim (λe=>a (b e.symm)) hk
def tZ(A:List Str):(nP A).map (·.1)=A:=by
 unfold nP;rw[aR];exact List.map_id A
def Mp{α:Type}{f:Str->α}{A:List Str}(h:u∈A):(A.map λu=>(u,f u)).lookup u=some (f u):=by
 induction A with
 |nil=>lia
 |cons a A ih=>
  rw[cC,bx];by_cases e:u=a
  ·rw[e,bA]
  ·rw[bB e];exact ih ((aA h).resolve_left e)
def FZ{k:Str}{l:List (Str×V)}(h:k∉l.map (·.1)):eO l k v=l++[(k,v)]:=by
 induction l with
 |nil=>rfl
 |cons p l ih=>
  rw[cC,List.mem_cons,not_or]at h;exact(if_neg (Ne.symm h.1)).trans (congrArg _ (ih h.2))
def RL{A:List Str}(h:u∉A):eO (nP A) u (.s (nI (nP A).length))=nP (A++[u]):=by
 rw[FZ (by rw[tZ];exact h)];unfold nP;rw[aH];congr 1
 exact cP λx a=>by rw[List.idxOf_append,if_pos a]
 show[(u,_)]=[(u,_)];rw[List.idxOf_append,if_neg h];simp
theorem RP{A:List Str}{v:Str}(h:v∈A\/v=u\/v=eG):pfx c (jC A u) v=pfx c A v:=by
 unfold pfx;cases c.rw
 ·rfl
 ·show Wc _ v=Wc _ v;unfold Wc;by_cases a:v=eG
  ·rw[if_pos a,if_pos a]
  rw[if_neg a,if_neg a];unfold jC;by_cases b:u∈A
  ·rw[if_pos b]
  ·rw[if_neg b];rcases h with h|h|h
   ·rw[List.idxOf_append,if_pos h]
   ·subst h;rw[List.idxOf_append,if_neg b,List.idxOf_eq_length b];simp
   ·exact absurd h a
def gY(c:Cf)(A:List Str)(uri t:Str):Str:=if uri=""/\c.rw=false then t else lF (pfx c A uri) t
structure afW (c:Cf) (s:S5) (R:LH) (pn:List (Str×Str)):Prop where
 lv:rO s.ns s.nv s.np R pn
 has:∀u∈(["e","u","v"]:List Str),pn.lookup u=some (pK c u)
 no:pn.lookup ("":Str)=none
structure qx (c:Cf) (s:S5) (R:LH) (A:List Str) (D:List Str):Prop where
 num:ju A
 pm:c.rw=true->s.pm=nP A
 lv:rO s.ds s.lv s.lp R (D.map λu=>(u,pfx c A u))
 dom:∀u∈D,Ef c A u
 xml:eG∈D
 nd:D.Nodup
 few:s.lp.length<1000
 ns:c.rw=false->∃pn,afW c s R pn
def needs(c:Cf)(D:List Str)(u:Str):Prop:=u∉D/\¬ (u=""/\c.rw=false)
noncomputable instance {c D u}:Decidable (needs c D u):=inferInstanceAs (Decidable (_/\_))
def S5.qn(s:S5)(c:Cf)(A D:List Str)(u:Str):S5:=if needs c D u then{s with lp:=s.lp++[pv (u,pfx c A u)],pm:=bif c.rw then nP (jC A u)else s.pm}else s
def iT{A:List Str}(h:ju A)(a:u∈U5):(pfx c A u).length<1000:=by
 unfold pfx;cases c.rw with
 |false=>exact(by decide+kernel:∀b:Bool,∀u∈U5,(pK ⟨false,false,false,false,b⟩ u).length<1000) c.ba u a
 |true=>
  unfold Wc
  split
  decide
  exact uc (lY h u)
def map_fst{D:List Str}{f:Str->Str}:(D.map λu=>(u,f u)).map (·.1)=D:=by rw[aR];exact List.map_id D
def jQ{x:Str}(h:x.length=0):x="":=by
 cases x with
 |mk a=>
  have:a.size=0:=h;rw[Array.eq_empty_of_size_eq_zero this];decide+kernel
theorem Zi(Y:Z)(q:Q){A D:List Str}(h:qx c s R A D)(a:Jp nm uri t br)(w:uri∈U5)(y:br=true->uri≠""):CC (dK Y) 51 (.m 83 (.r q.i)) [.s nm] [] (tg c q s++R) (λU=>.t [.s (gY c A uri t),.s t,.s uri]) (λU=>tg c q (s.qn c A D uri)++R):=by
 have d:=Rn (ps:=D.map λu=>(u,pfx c A u)) (k:=[]) (λp hp=>by
  obtain⟨u,z,rfl⟩:=aF hp;exact⟨rfl,λe=>RN h.num (h.dom u z) w e⟩) (by simp)
 rw[map_fst]at d;by_cases hD:uri∈D
 rw[if_pos hD]at d;rw[show s.qn c A D uri=s from if_neg λx=>x.1 hD];by_cases j:uri=""/\c.rw=false
 exact absurd j (h.dom uri hD).2.2
 rw[show gY c A uri t=lF _ t from if_neg j];cases br with
 |true=>exact ag2 a h.lv d
 |false=>obtain⟨rfl,rfl⟩:=a.nb rfl;exact ag1 a h.lv d
 rw[if_neg hD]at d;by_cases j:uri=""/\c.rw=false
 rw[show s.qn c A D uri=s from if_neg λx=>x.2 j,show gY c A uri t=t from if_pos j];obtain⟨rfl,hc⟩:=j;obtain⟨pn,g⟩:=h.ns hc;cases br with
 |true=>lia
 |false=>
  obtain⟨_,rfl⟩:=a.nb rfl;by_cases hk:("":Str)∈(scan "" (D.map λu=>(u,pfx c A u)) []).2
  exact qe a h.lv d hc (tct hk) g.lv h.few g.no
  exact qc a h.lv d hc (ntc hk)
 rw[show gY c A uri t=lF _ t from if_neg j];have B:uri≠eG:=λq=>hD (q▸h.xml);cases hc:c.rw with
 |true=>
  rw[show s.qn c A D uri={s with lp:=s.lp++[pv (uri,pfx c A uri)],pm:=nP _}by
   rw[S5.qn,if_pos ⟨hD,j⟩,hc];rfl]
  have b:=h.pm hc;have hp:pfx c A uri=nI (A.idxOf uri):=by rw[pfx,hc];exact if_neg B
  have hi:=lY h.num uri;rw[hp,show lF _ t=cJ++nI (A.idxOf uri)++":"++t from if_neg (Y9 hi)];by_cases l:uri∈A
  have h1:(s.pm.map (·.1)).contains uri=true:=by rw[b,tZ];exact bC l
  have v:s.pm.lookup uri=some (.s (nI (A.idxOf uri))):=by rw[b];exact Mp l
  rw[show jC A uri=A from if_pos l,<- b];cases br with
  |true=>exact ag6 a h.lv d hc h1 v (uc hi) h.few
  |false=>obtain⟨rfl,rfl⟩:=a.nb rfl;exact ag5 a h.lv d hc h1 v (uc hi) h.few
  have h1:(s.pm.map (·.1)).contains uri=false:=by rw[b,tZ];exact Bool.eq_false_iff.mpr λq=>l (bD q)
  have hz:s.pm.length=A.length:=by rw[b];exact aB ..
  have o:s.pm.length<10:=by rw[hz];exact aU (Qf h.num) ()
  have v:eO s.pm uri (.s (nI s.pm.length))=nP (A++[uri]):=by rw[b];exact RL l
  rw[show jC A uri=A++[uri]from if_neg l,<- v,List.idxOf_eq_length l,<- hz];cases br with
  |true=>exact ag4 a h.lv d hc h1 o h.few
  |false=>obtain⟨rfl,rfl⟩:=a.nb rfl;exact ag3 a h.lv d hc h1 o h.few
 |false=>
  obtain⟨pn,g⟩:=h.ns hc;have n:=λq=>j ⟨q,hc⟩;rw[show s.qn c A D uri={s with lp:=s.lp++[pv (uri,pfx c A uri)]}by
   rw[S5.qn,if_pos ⟨hD,j⟩,hc];rfl]
  have hp:pfx c A uri=pK c uri:=by rw[pfx,hc];rfl
  have E:uri∈(["e","u","v"]:List Str):=by
   have:uri∈(["","e","u","v",eG]:List Str):=w;simp at this ⊢;rcases this with e|e|e|e|e
   lia
   lia
   lia
   lia
   lia
  have C:=g.has uri E;rw[hp];cases br with
  |true=>exact qd a h.lv d hc (vH λq=>n (jQ q)) ((by decide+kernel:∀u∈U5,u.length<1000) uri w) g.lv h.few C
  |false=>exact absurd (a.nb rfl).1 n
end
section
variable {s:S5} {R:LH}
structure N5 where
 q:Str
 uri:Str
 tag:Str
 br:Bool
def iz:List N5:=[⟨"a","","a",false⟩,⟨"k","","k",false⟩,⟨"x","","x",false⟩,⟨"z","","z",false⟩,⟨"{e}a","e","a",true⟩,⟨"{e}x","e","x",true⟩,⟨mD,eG,"space",true⟩,⟨"{u}a","u","a",true⟩,⟨"{u}k","u","k",true⟩,⟨"{u}x","u","x",true⟩,⟨"{v}a","v","a",true⟩,⟨"{v}x","v","x",true⟩,⟨"{v}z","v","z",true⟩]
def okN(m:N5):Bool:=((Txt.slice m.q none (some 1)=="{")==m.br)&&(bif m.br then decide (Txt.rsplitMax (Txt.slice m.q (some 1) none) "}" 1=[m.uri,m.tag])&&!decide (m.uri="")else decide (m.uri=""/\m.tag=m.q))&&decide (m.q.length<100)&&decide ((Txt.slice m.q (some 1) none).length<1000)&&decide (m.tag.length<100)&&decide (m.uri∈U5)
def Te:iz.all okN=true:=by decide+kernel
structure aiV (m:N5):Prop where
 f:Jp m.q m.uri m.tag m.br
 u:m.uri∈U5
 ne:m.br=true->m.uri≠""
def jK{m:N5}(h:m∈iz):aiV m:=by
 have:=List.all_eq_true.mp Te m h;unfold okN at this;simp at this;obtain⟨⟨⟨⟨⟨h1,a⟩,e⟩,c⟩,d⟩,b⟩:=this;refine⟨⟨h1,λhb=>?_,λhb=>?_,(),c,()⟩,b,λhb=>?_⟩
 lia
 lia
 lia
def pB(c:Cf)(D0:List Str)(x:List Str×List Str)(u:Str):List Str×List Str:=if needs c (x.1++D0) u then(x.1++[u],bif c.rw then jC x.2 u else x.2)else x
def vA(c:Cf)(A N:List Str):List V:=(N.map λu=>(u,pfx c A u)).map pv
def S5.na(s:S5)(c:Cf)(x:List Str×List Str):S5:={s with lp:=vA c x.2 x.1,pm:=bif c.rw then nP x.2 else s.pm}
def pJ{A:List Str}{v:Str}(h:c.rw=true->v∈A\/v=u\/v=eG):pfx c (bif c.rw then jC A u else A) v=pfx c A v:=by
 cases hc:c.rw with
 |false=>rfl
 |true=>exact RP (h hc)
def pO{A:List Str}{v:Str}:v∈jC A u↔v∈A\/v=u:=by
 unfold jC;by_cases h:u∈A
 ·rw[if_pos h];exact⟨.inl,λq=>q.elim id λe=>e▸h⟩
 ·rw[if_neg h,List.mem_append,List.mem_singleton]
def R9{A:List Str}(h:A.Nodup)(d:u∉A):(A++[u]).Nodup:=by
 rw[List.nodup_append];exact⟨h,by simp,λa c b hb e=>d (by cases au hb;exact e▸c)⟩
def ju.add{A:List Str}(h:ju A)(d:u∈U5)(c:u≠eG):ju (jC A u):=by
 unfold jC;by_cases b:u∈A
 ·rw[if_pos b];exact h
 ·rw[if_neg b];refine⟨R9 h.nd b,λv a=>?_⟩;rcases aD a with a|a
  ·exact h.mem v a
  ·cases au a;exact⟨d,c⟩
def Ef.up{A:List Str}{v:Str}(h:Ef c A v):Ef c (bif c.rw then jC A u else A) v:=by
 exact⟨h.1,λhc=>(hc▸(h.2.1 hc).imp (λx=>pO.mpr (.inl x)) id),h.2.2⟩
theorem qx.step{A:List Str}(h:qx c (s.na c (N,A)) R A (N++D0))(i:u∈U5):qx c (s.na c (pB c D0 (N,A) u)) R (pB c D0 (N,A) u).2 ((pB c D0 (N,A) u).1++D0)/\(s.na c (N,A)).qn c A (N++D0) u=s.na c (pB c D0 (N,A) u):=by
 unfold pB S5.qn;by_cases hd:needs c (N++D0) u
 rw[if_pos hd,if_pos hd];have l:u≠eG:=λe=>hd.1 (e▸h.xml);have hk:∀v∈N++D0,pfx c (bif c.rw then jC A u else A) v=pfx c A v:=λv a=>pJ λhc=>((h.dom v a).2.1 hc).imp id .inr;have b:pfx c (bif c.rw then jC A u else A) u=pfx c A u:=pJ λU=>.inr (.inl rfl);have f:vA c (bif c.rw then jC A u else A) (N++[u])=vA c A N++[pv (u,pfx c A u)]:=by
  unfold vA;rw[aH,aH];congr 1
  exact congrArg (List.map pv) (cP λv a=>by rw[hk v (cH _ a)])
  show[pv (u,_)]=_;rw[b]
 have g:∀{X:List Str},(∀v∈X,v∈N++D0)->(X.map λv=>(v,pfx c (bif c.rw then jC A u else A) v))=X.map λv=>(v,pfx c A v):=λk=>cP λv a=>by rw[hk v (k v a)]
 have num:ju (bif c.rw then jC A u else A):=by
  cases hc:c.rw with
  |false=>exact h.num
  |true=>exact h.num.add i l
 have nd:(N++[u]++D0).Nodup:=by
  have hp:(N++[u]++D0).Perm (u::(N++D0)):=by rw[aQ];exact cG
  exact hp.nodup_iff.mpr (List.nodup_cons.mpr ⟨hd.1,h.nd⟩)
 have dom:∀v∈N++[u]++D0,Ef c (bif c.rw then jC A u else A) v:=λv a=>by
  rcases aD a with a|a
  rcases aD a with a|a
  exact(h.dom v (cH _ a)).up
  cases au a;exact⟨i,λhc=>.inl (by rw[hc];exact pO.mpr (.inr rfl)),hd.2⟩
  exact(h.dom v (aG _ a)).up
 have len:(N++[u]++D0).length<=5:=List.Nodup.length_le_of_subset nd λv a=>(dom v a).1;refine⟨⟨num,λhc=>?_,?_,dom,?_,nd,?_,λhc=>by obtain⟨pn,h1,j,m⟩:=h.ns hc;exact⟨pn,h1,j,m⟩⟩,?_⟩
 show(bif c.rw then nP (bif c.rw then jC A u else A)else s.pm)=nP (bif c.rw then jC A u else A);rw[hc];rfl
 obtain⟨⟨ug,l1,l2,l3⟩,n,q,o⟩:=h.lv;rw[aH,aH]at l3;refine⟨⟨ug,l1,l2,?_⟩,n,?_,λp hp=>?_⟩
 show vA c _ (N++[u])++_=_;rw[(List.append_cancel_left l3),aQ,aH,aH,aH,aH,g (X:=D0) λv=>aG _,f];unfold vA;rw[aQ];show _++([pv (u,_)]++_)=_++([pv (u,_)]++_);rw[b,g (X:=N) λv=>cH _]
 rw[aB];exact aU len ()
 obtain⟨v,a,rfl⟩:=aF hp;exact iT num (dom v a).1
 rw[aQ];rcases aD h.xml with a|a
 exact cH _ a
 exact aG _ (aG _ a)
 show(vA c _ (N++[u])).length<1000;unfold vA;rw[aB,aB];have:=aC (as:=N++[u]) (bs:=D0);lia
 show S5.mk _ _ _ _ _ _ _ _ _ _ _ _ _=S5.mk _ _ _ _ _ _ _ _ _ _ _ _ _;congr 1
 exact f.symm
 show(bif c.rw then nP (jC A u)else bif c.rw then nP A else s.pm)=bif c.rw then nP (bif c.rw then jC A u else A)else s.pm;cases c.rw <;> rfl
 rw[if_neg hd,if_neg hd];exact⟨h,rfl⟩
end
variable {nm:N5} {ms:List N5}
section
open To
variable {s:S5} {R:LH}
abbrev B9(Y:Z):List Stmt:=fQ Y 119
noncomputable def dO(at':List (N5×Str)):List (Str×Str):=at'.map λp=>(p.1.q,p.2)
def fY(c:Cf)(at':List (N5×Str)):List (N5×Str):=at'.filter λp=>!c.lost.contains p.1.q
noncomputable def Mi(q:Q)(s:S5)(t:Str)(m:Nat):Loc:=[("self",.r q.i),("tag",.s t),("attrs",.r m),("new_namespaces",.r s.lv),("qname_text",.n)]
structure fO (at':List (N5×Str)):Prop where
 nd:(at'.map (·.1.q)).Nodup
 mem:∀p∈at',p.1∈iz
 len:at'.length<=3
 val:∀p∈at',p.2.length<1000
def fO.fY(h:fO at')(c:Cf):fO (fY c at'):=
 ⟨h.nd.sublist (List.filter_sublist.map _),λp hp=>h.mem p (bF hp).1,aK (dF _ _) h.len,λp hp=>h.val p (bF hp).1⟩
theorem jG(a:(l.map (·.1)).Nodup):iu (l.map λq=>.t [.s q.1,q.2])=l:=by
 have key:∀(l d:List _),((d++l).map (·.1)).Nodup->(l.map λq=>V.t [.s q.1,q.2]).foldl (λd p=>eO d (vJ p).1 (vJ p).2) d=d++l:=by
  intro l
  induction l with
  |nil=>exact λd U=>(aX d).symm
  |cons p l ih=>
   intro d hd;show(l.map _).foldl _ (eO d p.1 p.2)=_;have e:eO d p.1 p.2=d++[p]:=FZ (by
    rw[aH]at hd;exact λq=>(List.nodup_append.mp hd).2.2 _ q _ (.head _) rfl)
   rw[e,ih _ (by rw[aQ];exact hd),aQ];rfl
 exact key l [] a
def kLen(h:fO at'):((dO at').map λq=>(q.1,V.s q.2)).length<=lim:=by
 unfold dO;rw[aB,aB];exact aK h.len ()
theorem QB(h:fO at'):iu (vwL (λx=>!c.lost.contains x) (dO at'))=(dO (fY c at')).map λq=>(q.1,.s q.2):=by
 have e:vwL (λx=>!c.lost.contains x) (dO at')=((dO (fY c at')).map λq=>(q.1,V.s q.2)).map λq=>.t [.s q.1,q.2]:=by
  unfold vwL dO fY;rw[List.filter_map,aR,aR,aR];rfl
 rw[e];refine jG ?_;have a:((dO (fY c at')).map λq=>(q.1,V.s q.2)).map (·.1)=(fY c at').map (·.1.q):=by unfold dO;rw[aR,aR];rfl
 exact a▸(h.fY c).nd
def tgF(a:Has H (tg c q s++L))(h:(tg c q s)[k]?=some (p,o)):H.f p=o:=(a.el _ (cH _ (bY h))).2
def Wq{k:LH}(a:Has H (L++[(p,o)]++k)):H.f p=o:=(a.el _ (cH _ (aG _ (.head _)))).2
theorem ain(Y:Z)(c:Cf)(q:Q)(s:S5)(R:LH)(t:Str)(m:Nat)(h:fO at'):EC (dK Y) 20 (dZ Y 119) (Mi q s t m) (sO (gJ (B9 Y)[0]?)[0]?).1 (tg c q s++[(m,fG (dO at'))]++R) (λx=>.r (x 0)) (λx=>tg c q s++[(m,fG (dO at')),(x 0,fG (dO (fY c at')))]++R):=λU P H g=>by
 have b:=Wq g;have a:Has H (tg c q s++([(m,fG (dO at'))]++R)):=by rw[<- aQ];exact g
 have f1:=tgF a (k:=1) rfl;have j:H.f q.ea=.e c.lost:=tgF a (k:=5) rfl;refine⟨λU=>H.n,_,aiK P (keep:=λx=>!c.lost.contains x) rfl rfl (yH P rfl rfl () (iJ P rfl) (wU b rfl) rfl wG Aq (Yk P (zQ b))) b rfl rfl () () ()
    (λx w=>TG P rfl rfl f1 (tgF a (k:=2) rfl) rfl rfl j) (by unfold dO;rw[aB];exact aK h.len ()) rfl,?_⟩
 rw[QB h];refine(Tp.new g).to ?_;show(tg c q s++([(m,_)]++[(H.n,_)])++R).Perm _;rw[<- aQ,aQ];exact cG
end
section
open To
variable {s:S5} {R:LH}
noncomputable def pl2(a b:Nat):Pl:=λi=>Nat.rec a (λU U=>b) i
noncomputable def Gl(q:Q)(s:S5)(t:Str)(m w r:Nat):Loc:=[("self",.r q.i),("tag",.s t),("attrs",.r m),("new_namespaces",.r s.lv),("qname_text",.n),("qnames",.r w),("resolved_names",.r r),("qattrs",.n),("parse_qname",.m 83 (.r q.i))]
def jc(kvs:List (Str×Str)):dN:=fG kvs
def Il(t:Str)(at':List (N5×Str)):List N5:=iz.filter λm=>(t::at'.map (·.1.q)).contains m.q
def Lz{ks:List Str}{k x:Str}:x∈iG ks k↔x∈ks\/x=k:=by
 unfold iG;by_cases h:ks.contains k=true
 rw[if_pos h];exact⟨.inl,λq=>q.elim id λe=>e▸bD h⟩
 rw[if_neg h,List.mem_cons];exact Or.comm
def uf:∀{ks:List Str} {x:Str},x∈fH ks l↔x∈ks\/x∈l:=by
 induction l with
 |nil=>exact λ{ks x}=>⟨.inl,λq=>q.elim id λq=>nomatch q⟩
 |cons k l ih=>
  intro ks x;show x∈fH _ l↔_;rw[ih,Lz,List.mem_cons,or_assoc]
def Ik:∀{ks:List Str},ks.Nodup->(fH ks l).Nodup:=by
 induction l with
 |nil=>exact λ{ks} h=>h
 |cons k l ih=>exact λ{ks} h=>ih (vf h)
def Ak:List Str:=iz.map (·.q)
def Dr:Ak.Nodup:=by lia
def Zw:Ak.Pairwise λa c=>lu a c=true/\lu c a=false:=by decide+kernel
def zB{ks:List Str}(c:ks.Nodup)(a:ks.length<=5)(hk:∀x∈ks,x∈Ak):mq ks (Ak.filter (ks.contains ·)):=
 ⟨a,λl hl=>by
  rw[Hx Zw Dr (hl.nodup_iff.mpr c) (by rw[hl.length_eq];exact a) λx b=>hk x (hl.mem_iff.mp b)];refine congrArg Ak.filter (funext λx=>?_);rw[Bool.eq_iff_iff,cI,cI];exact hl.mem_iff⟩
def Am(at':List (N5×Str)):(dO at').map (·.1)=at'.map (·.1.q):=by unfold dO;rw[aR];rfl
theorem HD(c:t∈Ak)(h:fO at'):mq (fH [t] ((dO at').map (·.1))) ((Il t at').map (·.q))/\(fH [t] ((dO at').map (·.1))).all (λk=>decide (k.length+2<=lim))=true:=by
 rw[Am];have b:∀x∈fH [t] (at'.map (·.1.q)),x∈Ak:=λx a=>by
  rcases uf.mp a with a|a
  rw[au a];exact c
  obtain⟨p,hp,rfl⟩:=aF a;exact aJ (h.mem p hp)
 have e:=zB (Ik (by simp)) (by
  have h1:=mj [t] (at'.map (·.1.q));have g:=h.len;rw[aB]at h1;exact aK h1 ()) b
 refine⟨?_,List.all_eq_true.mpr λx a=>decide_eq_true ?_⟩
 have d:Ak.filter ((fH [t] (at'.map (·.1.q))).contains ·)=(Il t at').map (·.q):=by
  unfold Ak Il;rw[List.filter_map];refine congrArg (λf=>(iz.filter f).map _) (funext λm=>?_);show List.contains _ m.q=List.contains _ m.q;rw[Bool.eq_iff_iff,cI,cI,uf,List.mem_singleton];exact List.mem_cons.symm
 rw[<- d];exact e
 have:∀y∈Ak,y.length+2<=lim:=by lia
 exact this x (b x a)
def Wh:∀m∈Il t at',m∈iz:=λm a=>(bF a).1
def Lq:((Il t at').map (·.q)).Nodup:=((List.filter_sublist).map _).nodup Dr
def aar(Y:Z)(q:Q)(s:S5)(R:LH)(t:Str)(m:Nat){kvs:List (Str×Str)}(hk:kvs.length<=3):EE (dK Y) 20 (dZ Y 119) (Mi q s t m) (sO (B9 Y)[1]?).1 ([(m,jc kvs)]++R) (λx=>.r (x 0)) (λx=>[(m,jc kvs),(x 0,.e (fH [t] (kvs.map (·.1))))]++R):=λU P H a=>by
 refine⟨λU=>H.n,_,afh P rfl rfl ((a.el _ (.head _)).2) (by rw[aB];exact hk) rfl,?_⟩;rw[aR];exact(Tp.new a).to (List.Perm.swap ..)
set_option backward.match.sparseCases false in
def px:Expr->Expr×Expr×List Comprehension×Sc
 |.ListComp e g s _=>(e,e,g,s.names)
 |.DictComp k v g s _=>(k,v,g,s.names)
 |.Call _ (a::_) _ _=>(a,e0,[],[])
 |.IfExp c a _ _=>(c,a,[],[])
 |.BinOp a _ b _=>(a,b,[],[])
 |_=>(e0,e0,[],[])
def Qq(e:Expr):Expr:=(px e).2.2.1.head?.elim e0 (·.iter)
def Px(e:Expr):Expr:=(px e).2.2.1.head?.elim e0 (·.target)
def Jh(e:Expr):List Expr:=(px e).2.2.1.head?.elim [] (·.ifs)
abbrev e6(Y:Z):Expr:=(sO (B9 Y)[6]?).1
theorem Uu(Y:Z)(c:Cf)(q:Q)(s:S5)(R:LH)(t:Str)(m w r:Nat){ks:List Str}(h:mq ks out)(hl:ks.all (λk=>decide (k.length+2<=lim))=true):EE (dK Y) 60 (dZ Y 119) (Gl q s t m w r) (Qq (e6 Y)) (tg c q s++[(w,.e ks)]++R) (λx=>.r (x 0)) (λx=>tg c q s++[(w,.e ks)]++R++[(x 0,.l (out.map .s))]):=λU P H a=>by
 have d:=Wq a;have b:Has H (tg c q s++([(w,.e ks)]++R)):=by rw[<- aQ];exact a
 have i:0<H.n:=(a.el (0,.t 116 fP) (cH _ (cH _ (.head _)))).1;refine⟨λU=>H.n,_,Uw P (ks:=ks) rfl rfl (show look _ _ _ _=_ from rfl) (iJ P rfl) d (by
  show(if dZ Y 119=(jM (hd.heap_39 Y.P) 119).scope.names then some _ else none)=_;rw[if_pos rfl]) i (tgF b (k:=0) rfl) h hl rfl,?_⟩;exact(Tp.new a).to (c7)
theorem p1{kvs:List (Str×Str)}(hk:kvs.length<=3):PX (dK Y) 70 (dZ Y 119) ((B9 Y).drop 1) (((B9 Y).drop 1).drop 5) (Mi q s t m) (tg c q s++[(m,jc kvs)]++R) (λnw=>Gl q s t m (nw 0) (nw 1)) (λnw=>tg c q s++[(m,jc kvs),(nw 0,.e (fH [t] (kvs.map (·.1))))]++R):=PX.go 5 [.call 20 [13] (λU x=>.r (x 0)) (λU x=>[(m,jc kvs),(x 0,.e (fH [t] (kvs.map (·.1))))]) (λU U=>R),n 0,n 1,n 0,n 1,.keep (List.range 15)] (λU f=>a (aar Y q s R t m hk)<|λ(d:Pl)=>λb=>dW q<|dW q<|f (pl2 (d 0) b))
end
section
open To
section
variable {pe:Pe} {n:Nat} {L1 L2 L3:LH} {x:V}
theorem CT.step(hb:∀H,Has H L->iB O H target x J=some eE)(h1:ZZ pe (λcx U H H'=>zf cx n O eE ifs H true H') L (λU=>L))(d:ZZ pe (λcx U H H'=>Fb cx n O em gens eE H f H') L (λU=>L2))(h3:CT pe n O em gens target ifs xs J L2 (λU=>zs) (λU=>L3)):CT pe n O em gens target ifs (x::xs) J L (λU=>f++zs) (λU=>L3):=λU P H H0 src a b=>by
 obtain⟨_,H1,c,t1⟩:=h1 P H a;obtain⟨_,H2,g,t2⟩:=d P H1 t1.has;obtain⟨b1,st⟩:=b.step (t1.trans t2);obtain⟨z,H3,e,h⟩:=h3 P H2 H0 src t2.has b1;exact⟨z,H3,yJ (hb H a) c g st e,(t1.trans t2).trans h⟩
def Ju.sub{H0:Hp}(b:Ju H H0 src L)(h:L1.Subset L):Ju H H0 src L1:=λi hi=>by
 obtain⟨h1,a,c⟩:=b i hi;exact⟨h1,λq=>a (List.map_subset _ h q),c⟩
def CT.frame{k:LH}(h:CT pe n O em gens target ifs xs J L (λU=>ys) (λU=>L2)):CT pe n O em gens target ifs xs J (L++k) (λU=>ys) (λU=>L2++k):=λU P H H0 src a b=>by
 obtain⟨y,H1,c,t1⟩:=h P H H0 src (a.sub (cY ..)) (b.sub (List.subset_append_left ..));exact⟨y,H1,c,t1.frame a⟩
def CT.perm{k:LH}(h:CT pe n O em gens target ifs xs J L (λU=>ys) (λU=>L2))(hl:L1.Perm L)(hk:k.Perm L2):CT pe n O em gens target ifs xs J L1 (λU=>ys) (λU=>k):=λU P H H0 src a b=>by
 obtain⟨y,H1,c,t1⟩:=h P H H0 src (a.to hl.symm) (b.sub hl.symm.subset);exact⟨y,H1,c,(t1.of hl).to hk⟩
def BK.kvG{c d:Expr}{k:Str}(h:EE pe n O J c L (λU=>.s k) (λU=>L))(f:EE pe n O J d L (λU=>v) (λU=>L2)):ZZ pe (λcx U H H'=>Fb cx n O (.kv c d) [] J H [.t [.s k,v]] H') L (λU=>L2):=λU P H a=>by
 obtain⟨x,H1,e,t1⟩:=h P H a;obtain⟨y,H2,b,t2⟩:=f P H1 t1.has;exact⟨y,H2,Nk e b,t1.trans t2⟩
def EE.name{x:Str}(h:look pe O J x=some v):EE pe (n+1) O J (.Name x p) L (λU=>v) (λU=>L):=λU P H a=>⟨λU=>0,H,iJ P h,.refl a⟩
end
theorem EC.lcO{n:Nat}{q:Nat}(a:ji pe O scope=true)(c:gA iter=false)(h1:∀L,EE pe n O J iter L (λU=>.r q) (λU=>L))(hf:(jf target).any (λx=>((around scope.names J).lookup x).isSome)=false)(b:CT pe n scope.names (.el elt) gens target ifs xs (around scope.names J) L1 (λU=>ys) (λU=>L1))(hl:ys.length<=lim):EC pe (n+1) O J (.ListComp elt (⟨target,iter,ifs,0⟩::gens) scope p) (L1++[(q,.l xs)]) (λx=>.r (x 0)) (λx=>(x 0,.l ys)::(L1++[(q,.l xs)])):=EC.lc a c (.old (h1 _)) hf b hl
theorem CT.Us{n:Nat}{t:Expr}{α:Type}{f g:α->V}{b:α->Bool}{N:List α}(h:∀p∈N,∃eE,(∀H,Has H L->iB O H target (f p) J=some eE)/\TT pe n O eE t L (λU=>b p) (λU=>L)/\EE pe n O eE elt L (λU=>g p) (λU=>L)):CT pe n O (.el elt) [] target [t] (N.map f) J L (λU=>(N.filter b).map g) (λU=>L):=by
 have k:=CT.flat (em:=.el elt) (g:=λp=>if b p=true then[g p]else[]) λp hp=>by
  obtain⟨l1,h1,c,d⟩:=h p hp;refine⟨l1,h1,?_⟩;have a:=EY.one c;cases hb:b p with
  |true=>rw[hb]at a;exact .inl ⟨a,BK.el d⟩
  |false=>rw[hb]at a;exact .inr ⟨a,if_neg Bool.false_ne_true⟩
 have e:(N.flatMap λp=>if b p=true then[g p]else[])=(N.filter b).map g:=by
  clear h k
  induction N with
  |nil=>rfl
  |cons p N ih=>
   rw[cX,cT,ih];cases b p <;> rfl
 rw[e]at k;exact k
theorem CT.each{n:Nat}{α:Type}{f g:α->V}{N:List α}(h:∀p∈N,∃eE,(∀H,Has H L->iB O H target (f p) J=some eE)/\EE pe n O eE elt L (λU=>g p) (λU=>L)):CT pe n O (.el elt) [] target [] (N.map f) J L (λU=>N.map g) (λU=>L):=by
 have k:=CT.flat (em:=.el elt) λp hp=>by
  obtain⟨l1,h1,a⟩:=h p hp;exact⟨l1,h1,.inl ⟨EY.nil,BK.el a⟩⟩
 rw[show(N.flatMap λp=>[g p])=N.map g from List.map_eq_flatMap.symm]at k;exact k
def fl4{α:Type}{l:List α}{b:α->Bool}{g:α->V}(h:l.length<=4):((l.filter b).map g).length<=lim:=by rw[aB];exact aK (dF _ _) ()
set_option backward.match.sparseCases false in
noncomputable def pL:Expr->Scope×Pos
 |.ListComp _ _ s p=>(s,p)
 |e=>(default,e.pos)
set_option backward.match.sparseCases false in
noncomputable def nX:Expr->Str×Pos
 |.Name x q=>(x,q)
 |e=>("",e.pos)
theorem EC.mp{n:Nat}{X:Expr}{q:Nat}{α:Type}{N:List α}{f:α->V}(h:CT pe (n+1) (px X).2.2.2 (.el (px X).1) [] (Px X) (Jh X) (N.map f) (around (px X).2.2.2 J) L (λU=>ys) (λU=>L))(hl:ys.length<=lim)(c:X=.ListComp (px X).1 [⟨Px X,.Name (nX (Qq X)).1 (nX (Qq X)).2,Jh X,0⟩] (pL X).1 (pL X).2:=by kernel_rfl) (a:(pL X).1.names=(px X).2.2.2:=by kernel_rfl) (b:look pe O J (nX (Qq X)).1=some (.r q):=by kernel_rfl)
  (hf:(ji pe O (pL X).1&&!(jf (Px X)).any (λx=>((around (px X).2.2.2 J).lookup x).isSome))=true:=by kernel_rfl):EC pe (n+2) O J X ((q,.l (N.map f))::L) (λx=>.r (x 0)) (λx=>(q,.l (N.map f))::(x 0,.l ys)::L):=by
 obtain⟨h1,d⟩:=aZ hf;have hp:∀{L:LH},((q,dN.l _)::L).Perm (L++[(q,.l (N.map f))]):=λ{L}=>c7 (l₁:=[(q,_)]);exact((congrArg (λY7=>EC pe _ O J Y7 _ _ _) c).mpr (EC.lcO (p:=(pL X).2) h1 rfl (λL=>EE.name (p:=(nX (Qq X)).2) b) (a▸(cO _).mp d) (a▸h) hl)).perm hp λx=>(List.Perm.swap ..).trans (.cons _ hp)
variable {s:S5} {R:LH}
abbrev sc6(Y:Z):Sc:=(px (e6 Y)).2.2.2
noncomputable def ahD(q:Q)(nm:Str):Loc:=[("parse_qname",.m 83 (.r q.i)),("n",.s nm)]
def gK(c:Cf)(D0:List Str)(ms:List N5)(x:List Str×List Str):List Str×List Str:=ms.foldl (λx m=>pB c D0 x m.uri) x
theorem Gf{v:Str}:∀{x:List Str×List Str},(c.rw=true->v∈x.2\/v=eG)->pfx c (gK c D0 ms x).2 v=pfx c x.2 v:=by
 induction ms with
 |nil=>exact λU=>rfl
 |cons m ms ih=>
  intro x h;have e:(pB c D0 x m.uri).2=x.2\/(pB c D0 x m.uri).2=bif c.rw then jC x.2 m.uri else x.2:=by
   unfold pB;by_cases hd:needs c (x.1++D0) m.uri
   ·rw[if_pos hd];exact .inr rfl
   ·rw[if_neg hd];exact .inl rfl
  show pfx c (gK c D0 ms (pB c D0 x m.uri)).2 v=_;rewrite [ih λhc=>?_]
  ·rcases e with e|e
   ·rw[e]
   ·rw[e];exact pJ λhc=>(h hc).imp id .inr
  ·rcases e with e|e
   ·rw[e];exact h hc
   ·rw[e,hc];exact(h hc).imp (λq=>pO.mpr (.inl q)) id
theorem Uc{A:List Str}(h:qx c (s.na c (N,A)) R A (N++D0)):gY c (gK c D0 ms (pB c D0 (N,A) u)).2 u t=gY c A u t:=by
 unfold gY;by_cases a:u=""/\c.rw=false
 ·rw[if_pos a,if_pos a]
 rw[if_neg a,if_neg a,Gf]
 ·unfold pB;by_cases hd:needs c (N++D0) u
  ·rw[if_pos hd];exact congrArg (lF · t) (pJ λU=>.inr (.inl rfl))
  ·rw[if_neg hd]
 ·intro hc;unfold pB;by_cases hd:needs c (N++D0) u
  ·rw[if_pos hd]
   left
   rw[hc];exact pO.mpr (.inr rfl)
  ·rw[if_neg hd];have:u∈N++D0:=Decidable.byContradiction λq=>hd ⟨q,a⟩;exact(h.dom u this).2.1 hc
def zp(c:Cf)(A:List Str)(m:N5):V:=.t [.s (gY c A m.uri m.tag),.s m.tag,.s m.uri]
def aeT{nm:Str}(h:CC (dK Y) 51 (.m 83 (.r q.i)) [.s nm] [] (tg c q s++R) (λU=>v) (λU=>tg c q s2++R)):EE (dK Y) 60 (sc6 Y) (ahD q nm) ((px (e6 Y)).2.1) (tg c q s++R) (λnw=>v) (λnw=>tg c q s2++R):=EE.go [.me 51 v (tg c q s2) R,.keep fX] (λU f=>a (h)<|λb=>f ())
theorem YB:∀{x:List Str×List Str},(∀m∈ms,m∈iz)->qx c (s.na c x) R x.2 (x.1++D0) ->
  qx c (s.na c (gK c D0 ms x)) R (gK c D0 ms x).2 ((gK c D0 ms x).1++D0) /\
  CT (dK Y) 60 (sc6 Y) (.kv (px (e6 Y)).1 (px (e6 Y)).2.1) [] (Px (e6 Y)) [] (ms.map λm=>.s m.q) ([("parse_qname",.m 83 (.r q.i))]:Loc) (tg c q (s.na c x)++R) (λU=>ms.map λm=>.t [.s m.q,zp c (gK c D0 ms x).2 m]) (λU=>tg c q (s.na c (gK c D0 ms x))++R):=by
 induction ms with
 |nil=>exact λU h=>⟨h,CT.nil⟩
 |cons m ms ih=>
  intro x b h;have hk:=jK (b m (.head _));obtain⟨h1,d⟩:=h.step hk.u;have a:=Zi Y q h hk.f hk.u hk.ne;rw[d]at a;obtain⟨k,j⟩:=ih (λy g=>b y (.tail _ g)) h1;refine⟨k,?_⟩;have e:zp c (gK c D0 (m::ms) x).2 m=.t [.s (gY c x.2 m.uri m.tag),.s m.tag,.s m.uri]:=by
   unfold zp;rw[show gY c (gK c D0 (m::ms) x).2 m.uri m.tag=gY c x.2 m.uri m.tag from Uc h]
  rw[cC,cC,e];exact CT.step (λU U=>rfl) EY.nil (BK.kvG (EE.name rfl) (aeT a)) j
def adp{A R:LH}:(A++[x]++R).Perm (A++R++[x]):=by
 rw[aQ,aQ];exact List.perm_append_comm.append_left _
theorem ail(Y:Z)(c:Cf)(q:Q)(s:S5)(R:LH)(t:Str)(m w r:Nat){ks:List Str}(hd:qx c (s.na c x) R x.2 (x.1++D0))(h:mq ks (ms.map (·.q)))(hl:ks.all (λk=>decide (k.length+2<=lim))=true)(g:∀m∈ms,m∈iz)(i:(ms.map (·.q)).Nodup)(a:ms.length<=13):EC (dK Y) 61 (dZ Y 119) (Gl q s t m w r) (e6 Y) (tg c q (s.na c x)++[(w,.e ks)]++R) (λx=>.r (x 0)) (λz=>tg c q (s.na c (gK c D0 ms x))++[(z 0,.d (ms.map λm=>(m.q,zp c (gK c D0 ms x).2 m)))]++R):=by
 obtain⟨_,f⟩:=YB g hd;have b:=Uu Y c q (s.na c x) R t m w r h hl;rw[aR]at b;have e:=jG (l:=ms.map λm=>(m.q,zp c (gK c D0 ms x).2 m)) (by rw[aR];exact i);rw[aR]at e;have key:EC _ 61 _ _ (e6 Y) _ _ _:=
  EC.dc rfl rfl (.new b) rfl ((f.frame).perm adp adp) (by rw[aB];exact aK a ())
 rw[show iu (ms.map λm=>.t [.s m.q,zp c (gK c D0 ms x).2 m])=ms.map λm=>(m.q,zp c (gK c D0 ms x).2 m)from e]at key;refine ZZ.perm (ZZ.weak (k:=λz=>(z 0,.d (ms.map λm=>(m.q,zp c (gK c D0 ms x).2 m)))::(tg c q (s.na c (gK c D0 ms x))++R)) key λz=>?_) (.refl _) λz=>?_
 rw[aX];exact(((cY _ _).append (.refl _)).cons_cons _)
 rw[aQ];exact cG
end
section
open To
variable {s:S5} {R:LH}
noncomputable def Aa(q:Q)(s:S5)(t:Str)(m w r pq:Nat):Loc:=[("self",.r q.i),("tag",.s t),("attrs",.r m),("new_namespaces",.r s.lv),("qname_text",.n),("qnames",.r w),("resolved_names",.r r),("qattrs",.n),("parse_qname",.m 83 (.r q.i)),("parsed_qnames",.r pq)]
noncomputable def iU(q:Q)(s:S5)(t:Str)(m w r pq al:Nat):Loc:=[("self",.r q.i),("tag",.s t),("attrs",.r m),("new_namespaces",.r s.lv),("qname_text",.n),("qnames",.r w),("resolved_names",.r r),("qattrs",.n),("parse_qname",.m 83 (.r q.i)),("parsed_qnames",.r pq),("attr_list",.r al)]
abbrev e7(Y:Z):Expr:=(sO (gJ (B9 Y)[7]?)[0]?).1
noncomputable def Zm(q:Q)(u p:Str):Loc:=[("uri",.s u),("prefix",.s p)]
abbrev sc7(Y:Z):Sc:=(px (e7 Y)).2.2.2
theorem FN{α k:Type}{d:α}{e:k}{lt:k->k->Bool}{f:α->k}{xs:List α}(m:xs.length<=5):qK e lt (xs.map f)=(qK d (λa c=>lt (f a) (f c)) xs).map f:=by
 unfold qK;rw[aB];by_cases b:xs.length<2
 ·rw[if_pos b,if_pos b]
 rw[if_neg b,if_neg b,aR];have h:2<=xs.length/\xs.length<=5:=⟨Nat.le_of_not_lt b,m⟩
 have g:∀i,i<xs.length->(xs.map f).getD i e=f (xs.getD i d):=λi hi=>by
  rw[bw,bW,bw,bk hi];rfl
 have ep:qJ e lt (xs.map f)=qJ d (λa c=>lt (f a) (f c)) xs:=by
  unfold qJ;rw[aB];refine congrArg Array.toList (uz (λi j hi l U=>?_) _ (lG h));rw[g i hi,g j l]
 rw[ep];exact cP λi hi=>g i ((nM h).2 i hi)
def tO{d:α}{f:α->V}{xs:List α}(hk:∀a∈xs,pP (f a)=true)(b:xs.length<=5):jq (xs.map f) ((qK d (λa c=>ltPair (f a) (f c)) xs).map f):=
 ⟨.inl (List.all_eq_true.mpr λv g=>by obtain⟨a,e,rfl⟩:=aF g;exact hk a e),by rw[aB];exact b,FN b⟩
def Ai(c:Cf)(A:List Str)(u:Str):Str:=if(pfx c A u).length=0 then"xmlns" else"xmlns:"++pfx c A u
def lbl(c:Cf)(A:List Str)(u:Str):V:=.t [.s (Ai c A u),.s u]
def FP(c:Cf)(A N:List Str):List Str:=qK cJ (λa b=>ltPair (lbl c A a) (lbl c A b)) N
def xl{p:Str}(h:p.length<1000):("xmlns:":Str).length+p.length<=lim:=aK (dg (show("xmlns:":Str).length<=6 from fM rfl) (cj h)) ()
theorem p6{w r:Nat}{kvs:List (Str×Str)}{ks:List Str}(hd:qx c (s.na c x) R x.2 (x.1++D0))(h:mq ks (ms.map (·.q)))(hl:ks.all (λk=>decide (k.length+2<=lim))=true)(i:∀m∈ms,m∈iz)(j:(ms.map (·.q)).Nodup)(b:ms.length<=13):PX (dK Y) 70 (dZ Y 119) ((B9 Y).drop 6) (((B9 Y).drop 6).drop 1) (Gl q s t m w r) (tg c q (s.na c x)++[(m,jc kvs),(w,.e ks)]++R) (λnw=>Aa q s t m w r (nw 0)) (λnw=>tg c q (s.na c (gK c D0 ms x))++[(m,jc kvs),(nw 0,.d (ms.map λm=>(m.q,zp c (gK c D0 ms x).2 m)))]++R):=PX.go 1 [.call 61 [0,1,2,3,4,5,6,7,8,9,10,11,12,14] (λU z=>.r (z 0)) (λU z=>tg c q (s.na c (gK c D0 ms x))++[(z 0,.d (ms.map λm=>(m.q,zp c (gK c D0 ms x).2 m)))]) (λU U=>R),.keep (List.range 15)] (λU f=>a (ail Y c q s R t m w r hd h hl i j b)<|λg=>f (g))
def aeV(b:(p.length !=0)=false):EE (dK Y) 40 (sc7 Y) (Zm q u p) ((px (e7 Y)).1) ([]++R) (λnw=>.t [.s "xmlns",.s u]) (λnw=>[]++R):=EE.go [.n 2,.keep []] (λU f=>a (lz b)<|a (b)<|f (λU=>0))
def aeU(b:(p.length !=0)=true)(hl:p.length<1000):EE (dK Y) 40 (sc7 Y) (Zm q u p) ((px (e7 Y)).1) ([]++R) (λnw=>.t [.s ("xmlns:"++p),.s u]) (λnw=>[]++R):=EE.go [.n 1,.keep []] (λU f=>a (lL hl)<|a (b)<|a (xl hl)<|f (λU=>0))
def acD{A:List Str}(h:N.length<=5):(vA c A N).length<=lim:=by
 unfold vA;rw[aB,aB];exact aK h ()
theorem aik(Y:Z)(c:Cf)(q:Q)(s:S5)(R:LH)(t:Str)(m w r pq:Nat){A:List Str}(d:∀u∈N,(pfx c A u).length<1000)(b:N.length<=5):EC (dK Y) 41 (dZ Y 119) (Aa q s t m w r pq) (e7 Y) ([(s.lv,.l (vA c A N))]++R) (λx=>.r (x 0)) (λz=>[(s.lv,.l (vA c A N)),(z 0,.l (N.map (lbl c A)))]++R):=
 by
 rw[show vA c A N=N.map λu=>pv _ by unfold vA;rw[aR];rfl];refine EC.mp (CT.each λu a=>⟨Zm q u _,λU U=>rfl,?_⟩) (by rw[aB];exact aK b ());by_cases h0:(pfx c A u).length=0
 rw[show lbl c A u=.t [.s "xmlns",.s u]by unfold lbl Ai;rw[if_pos h0]];exact aeV (SQ h0)
 rw[show lbl c A u=.t [.s _,.s u]by unfold lbl Ai;rw[if_neg h0]];exact aeU (vH h0) (d u a)
def ahd{w r:Nat}{A:List Str}:PX (dK Y) 70 (dZ Y 119) ((B9 Y).drop 7) (((B9 Y).drop 7).drop 1) (Aa q s t m w r pq) (tg c q (s.na c ([],A))++[(m,o1),(pq,o2)]++R) (λnw=>iU q s t m w r pq (nw 0)) (λnw=>tg c q (s.na c ([],A))++[(m,o1),(pq,o2),(nw 0,.l [])]++R):=PX.go 1 [n 11,n 0,.keep (List.range 16)] (λU f=>dH s.lv<|a (yd)<|λb=>f (pl2 b 0))
theorem ahe{w r:Nat}{A:List Str}{b:Str}(i:∀u∈b::N,(pfx c A u).length<1000)(h:(b::N).length<=5):PX (dK Y) 70 (dZ Y 119) ((B9 Y).drop 7) (((B9 Y).drop 7).drop 1) (Aa q s t m w r pq) (tg c q (s.na c (b::N,A))++[(m,o1),(pq,o2)]++R) (λnw=>iU q s t m w r pq (nw 0)) (λnw=>tg c q (s.na c (b::N,A))++[(m,o1),(pq,o2),(nw 0,.l ((FP c A (b::N)).map (lbl c A)))]++R):=PX.go 1 [n 11,n 0,.call 41 [11] (λU z=>.r (z 0)) (λU z=>[(s.lv,.l (vA c A (b::N))),(z 0,.l ((b::N).map (lbl c A)))]) (λU U=>R),n 15,.vals λU=>(FP c A (b::N)).map (lbl c A),.keep (List.range 16)] (λU f=>dH s.lv<|a (acD (c:=c) (A:=A) h)<|a (aik Y c q s R t m w r pq i h)<|λg=>a (e (g 0))<|a (e (g 0))<|a (tO (d:=cJ) (f:=lbl c A) (λU U=>rfl) h)<|f (g))
end
section
open To
variable {s:S5} {R:LH}
abbrev f8(Y:Z):Option Stmt:=(gJ (B9 Y)[8]?)[0]?
noncomputable def adL(q:Q)(s:S5)(t:Str)(m w r pq al:Nat)(k v:Str):Loc:=[("self",.r q.i),("tag",.s t),("attrs",.r m),("new_namespaces",.r s.lv),("qname_text",.n),("qnames",.r w),("resolved_names",.r r),("qattrs",.n),("parse_qname",.m 83 (.r q.i)),("parsed_qnames",.r pq),("attr_list",.r al),("k",.s k),("v",.s v)]
noncomputable def Mg(q:Q)(s:S5)(t:Str)(m w r pq al:Nat)(k v f g u:Str):Loc:=[("self",.r q.i),("tag",.s t),("attrs",.r m),("new_namespaces",.r s.lv),("qname_text",.n),("qnames",.r w),("resolved_names",.r r),("qattrs",.n),("parse_qname",.m 83 (.r q.i)),("parsed_qnames",.r pq),("attr_list",.r al),("k",.s k),("v",.s v),("attr_qname",.s f),("attr_name",.s g),("uri",.s u)]
noncomputable def Yv(p:N5×Str):V:=.t [.s p.1.q,.s p.2]
def jT(l:List (N5×Str)):List (N5×Str):=qK (⟨cJ,cJ,cJ,false⟩,cJ) (λa b=>ltPair (Yv a) (Yv b)) l
def vo(c:Cf)(A:List Str)(m:N5):Str:=if m.uri.length=0 then m.tag else gY c A m.uri m.tag
def z9{w r:Nat}{k v f:Str}:∀z x,(iU q s t m w r pq al).lookup z=some x->(Mg q s t m w r pq al k v f g u).lookup z=some x:=ux
theorem aiP{w r:Nat}{k v f:Str}(c:rows.lookup k=some (.t [.s f,.s g,.s u]))(b:(u.length !=0)=false)(hl:xs.length<1000):XS (dK Y) 40 (dZ Y 119) (adL q s t m w r pq al k v) (gJ (f8 Y)) ([(pq,.d rows),(al,.l xs)]++R) (λnw=>.next) (λnw=>Mg q s t m w r pq al k v f g u) (λnw=>[(pq,.d rows),(al,.l (xs++[.t [.s g,.s v]]))]++R):=XS.go [n 0,n 0,.val λU=>.t [.s f,.s g,.s u],n 1,.n 2,.keep [0,1]] (λU f=>dH pq<|a (c)<|dH al<|a (lz b)<|a (b)<|dH al<|a (Iw hl)<|f (λU=>0))
theorem aiO{w r:Nat}{k v f:Str}(e:rows.lookup k=some (.t [.s f,.s g,.s u]))(b:(u.length !=0)=true)(c:u.length<1000)(hl:xs.length<1000):XS (dK Y) 40 (dZ Y 119) (adL q s t m w r pq al k v) (gJ (f8 Y)) ([(pq,.d rows),(al,.l xs)]++R) (λnw=>.next) (λnw=>Mg q s t m w r pq al k v f g u) (λnw=>[(pq,.d rows),(al,.l (xs++[.t [.s f,.s v]]))]++R):=XS.go [n 0,n 0,.val λU=>.t [.s f,.s g,.s u],n 1,.n 1,.keep [0,1]] (λU f=>dH pq<|a (e)<|dH al<|a (lL c)<|a (b)<|dH al<|a (Iw hl)<|f (λU=>0))
theorem aaS{w r:Nat}{A:List Str}{l:List (N5×Str)}:∀{xs:List V},(∀p∈l,p.1∈iz/\rows.lookup p.1.q=some (zp c A p.1))->xs.length+l.length<900 ->
  FT (dK Y) 40 (dZ Y 119) (uP (f8 Y)) (gJ (f8 Y)) (l.map Yv) (iU q s t m w r pq al) [(pq,.d rows),(al,.l xs)] (λU=>.next) (λU=>iU q s t m w r pq al) (λU=>[(pq,.d rows),(al,.l (xs++l.map λp=>.t [.s (vo c A p.1),.s p.2]))]):=by
 induction l with
 |nil=>
  intro xs _ _;show FT _ _ _ _ _ [] _ _ _ _ (λU=>[(pq,.d rows),(al,.l (xs++[]))]);rw[aX];exact FT.nil
 |cons p l ih=>
  intro xs h hl;obtain⟨hk,a⟩:=h p (.head _);rw[aO]at hl;have go:=ih (xs:=xs++[.t [.s (vo c A p.1),.s p.2]]) (λy b=>h y (.tail _ b)) (by rw[aC];show xs.length+1+_<_;lia);rw[aQ]at go;by_cases h0:p.1.uri.length=0
  rw[show vo c A p.1=p.1.tag from if_pos h0]at go;show FT _ _ _ _ _ _ _ _ _ _ (λU=>[(pq,.d rows),(al,.l (xs++(.t [.s (vo c A p.1),.s p.2]::l.map λp=>.t [.s (vo c A p.1),.s p.2])))]);rw[show vo c A p.1=p.1.tag from if_pos h0];exact FT.cons (λU U=>rfl) (aiP a (SQ h0) ()) (λU=>rfl) λU=>go.forget z9
  rw[show vo c A p.1=gY c A p.1.uri p.1.tag from if_neg h0]at go;show FT _ _ _ _ _ _ _ _ _ _ (λU=>[(pq,.d rows),(al,.l (xs++(.t [.s (vo c A p.1),.s p.2]::l.map λp=>.t [.s (vo c A p.1),.s p.2])))]);rw[show vo c A p.1=gY c A p.1.uri p.1.tag from if_neg h0];exact FT.cons (λU U=>rfl) (aiO a (vH h0) ((by decide+kernel:∀u∈U5,u.length<1000) _ (jK hk).u) ()) (λU=>rfl) λU=>go.forget z9
def RD(l:List (N5×Str)):((dO l).map λq=>(q.1,V.s q.2)).map (λp=>V.t [.s p.1,p.2])=l.map Yv:=by
 unfold dO;rw[aR,aR];rfl
def XR(h:fO l):jq (((dO l).map λq=>(q.1,V.s q.2)).map λp=>.t [.s p.1,p.2]) ((jT l).map Yv):=by
 rw[RD];exact tO (λU U=>rfl) (aK h.len ())
def j9{d:α}{lt:α->α->Bool}{xs:List α}(b:xs.length<=5):∀p∈qK d lt xs,p∈xs:=λp hp=>by
 unfold qK at hp;by_cases a:xs.length<2
 ·rwa [if_pos a]at hp
 ·rw[if_neg a]at hp;obtain⟨i,hi,rfl⟩:=aF hp;have:=(nM ⟨Nat.le_of_not_lt a,b⟩).2 i hi;rw[bw,bk this];exact List.getElem_mem this
def nJ{d:α}{lt:α->α->Bool}{xs:List α}(b:xs.length<=5):(qK d lt xs).length=xs.length:=by
 unfold qK;by_cases a:xs.length<2
 ·rw[if_pos a]
 ·rw[if_neg a,aB];exact(nM ⟨Nat.le_of_not_lt a,b⟩).1
def ae1{w r:Nat}(h:fO l):EE (dK Y) 40 (dZ Y 119) (iU q s t m w r pq al) (Ud (f8 Y)) ([(m,jc (dO l)),(pq,o1),(al,o2)]++R) (λnw=>.r (nw 0)) (λnw=>[(m,jc (dO l)),(pq,o1),(al,o2),(nw 0,.l ((jT l).map Yv))]++R):=EE.go [n 0,n 0,.vals λU=>(jT l).map Yv,.keep [0,1,2,3]] (λU f=>dH m<|dH m<|dH m<|a (XR h)<|λb=>f (λU=>b))
theorem x_at(Y:Z)(c:Cf)(q:Q)(s:S5)(R:LH)(t:Str)(m w r pq al:Nat){A:List Str}(a:fO l)(h:∀p∈l,p.1∈iz/\rows.lookup p.1.q=some (zp c A p.1))(hl:xs.length<800):XX (dK Y) 41 (dZ Y 119) (iU q s t m w r pq al) (Internal.fs (f8 Y)) ([(m,jc (dO l)),(pq,.d rows),(al,.l xs)]++R) (λU=>.next) (λU=>iU q s t m w r pq al) (λU=>[(m,jc (dO l)),(pq,.d rows),(al,.l (xs++(jT l).map λp=>.t [.s (vo c A p.1),.s p.2]))]++R):=by
 have b:l.length<=5:=aK a.len ();have f:=aaS (Y:=Y) (q:=q) (s:=s) (t:=t) (m:=m) (w:=w) (r:=r) (pq:=pq) (al:=al) (l:=jT l) (λp hp=>h p (j9 b p hp)) (by
  rw[show(jT l).length=l.length from nJ b];lia)
 have key:XX _ 41 _ _ (Internal.fs (f8 Y)) [(m,jc _),_,(al,.l xs)] _ _ _:=
  XX.Z9 rfl (ae1 a) ((f.frame).perm (c7 (l₁:=[(m,_)])) λU=>c7)
 exact key.frame
def ahb{w r:Nat}:PX (dK Y) 70 (dZ Y 119) ((B9 Y).drop 8) (((B9 Y).drop 8).drop 1) (iU q s t m w r pq al) (tg c q s++[(m,jc []),(pq,o1),(al,o2)]++R) (λnw=>iU q s t m w r pq al) (λnw=>tg c q s++[(m,jc []),(pq,o1),(al,o2)]++R):=PX.go 1 [n 13,n 0,.keep (List.range 16)] (λU f=>dH m<|a (yd)<|f (λU=>0))
theorem ahc{w r:Nat}{A:List Str}(b:fO (p0::l))(h:∀p∈p0::l,p.1∈iz/\rows.lookup p.1.q=some (zp c A p.1))(hl:xs.length<800):PX (dK Y) 70 (dZ Y 119) ((B9 Y).drop 8) (((B9 Y).drop 8).drop 1) (iU q s t m w r pq al) (tg c q s++[(m,jc (dO (p0::l))),(pq,.d rows),(al,.l xs)]++R) (λnw=>iU q s t m w r pq al) (λnw=>tg c q s++[(m,jc (dO (p0::l))),(pq,.d rows),(al,.l (xs++(jT (p0::l)).map λp=>.t [.s (vo c A p.1),.s p.2]))]++R):=PX.go 1 [n 13,n 0,.stm 41 [13,14,15] (λU U=>.next) (λU U=>iU q s t m w r pq al) (λU U=>[(m,jc (dO (p0::l))),(pq,.d rows),(al,.l (xs++(jT (p0::l)).map λp=>.t [.s (vo c A p.1),.s p.2]))]) (λU U=>R),.keep (List.range 16)] (λU f=>dH m<|a (kLen b)<|a (x_at Y c q s R t m w r pq al b h hl)<|λ(e:Pl)=>f (λU=>0))
end
section
open To
variable {s:S5} {R:LH}
noncomputable def uq(q:Q)(s:S5)(t:Str)(m w r pq al:Nat)(v:V):Loc:=[("self",.r q.i),("tag",.s t),("attrs",.r m),("new_namespaces",.r s.lv),("qname_text",.n),("qnames",.r w),("resolved_names",.r r),("qattrs",.n),("parse_qname",.m 83 (.r q.i)),("parsed_qnames",.r pq),("attr_list",.r al),("space_behaviour",v)]
def Mh(q:Q)(s:S5)(t:Str)(m w r pq al:Nat)(v:V):Loc:=[("self",.r q.i),("tag",.s t),("attrs",.r m),("new_namespaces",.r s.lv),("qname_text",.n),("qnames",.r w),("resolved_names",.r r),("qattrs",.n),("parse_qname",.m 83 (.r q.i)),("parsed_qnames",.r pq),("attr_list",.r al),("space_behaviour",v),("write",.k .jh (.r q.o))]
abbrev e13(Y:Z):Expr:=(px (px (sO (gJ (B9 Y)[13]?)[0]?).1).1).1
abbrev agJ(Y:Z):Sc:=(px (e13 Y)).2.2.2
noncomputable def adM(k v:Str):Loc:=[("k",.s k),("v",.s v)]
noncomputable def wH(kvs:List (Str×Str)):List (Str×V):=kvs.map λq=>(q.1,.s q.2)
def atS(p:Str×Str):Str:=cJ++" "++p.1++"=\""++mK p.2++"\""
def To.ea(y:Str)(r:LH):To:=.call 12 [] (λU U=>.s y) (λU U=>[]) (λU U=>r)
def eaL(a:x.length<100000):(mK x).length<=lim:=aK (lN (cj a)) ()
def a1{k:Str}(hk:k.length<10000):(cJ++" ").length+k.length<=lim:=aK (dg (show(cJ++" ").length<=1 from fM rfl) (cj hk)) ()
def a2{k:Str}(hk:k.length<10000):(cJ++" "++k).length+("=\"":Str).length<=lim:=by
 rw[fJ];exact aK (dg (dg (show(cJ++" ").length<=1 from fM rfl) (cj hk)) (show("=\"":Str).length<=2 from fM rfl)) ()
def a3{k x:Str}(hk:k.length<10000)(a:x.length<100000):(cJ++" "++k++"=\"").length+(mK x).length<=lim:=by
 rw[fJ,fJ];exact aK (dg (dg (dg (show(cJ++" ").length<=1 from fM rfl) (cj hk)) (show("=\"":Str).length<=2 from fM rfl)) (lN (cj a))) ()
def a4{k x:Str}(hk:k.length<10000)(a:x.length<100000):(cJ++" "++k++"=\""++mK x).length+("\"":Str).length<=lim:=by
 rw[fJ,fJ,fJ];exact aK (dg (dg (dg (dg (show(cJ++" ").length<=1 from fM rfl) (cj hk)) (show("=\"":Str).length<=2 from fM rfl)) (lN (cj a))) (show("\"":Str).length<=1 from fM rfl)) ()
def l1{f:Str}(h:f.length<10000):("<":Str).length+f.length<=lim:=aK (dg (show("<":Str).length<=1 from fM rfl) (cj h)) ()
def ac6(l:List V)(x:V)(h:l.length<1000):(l++[x]).length<lim:=adF () aC
def o3{x y:V}(h:l.length<900000):(l++[x]++[y]).length<lim:=by
 rw[aC,aC];exact aM (Nat.add_lt_add_right (Nat.add_lt_add_right h 1) 1) ()
def ac3{n:Nat}(h:n<900000):n<1000000:=cA h ()
def ahA{n:Nat}(h:n<900000):n<lim:=cA h ()
def avL{l:List (Str×Str)}(h:l.length<=100):(l.map pv).length<=lim:=by
 rw[aB];exact aK h ()
def kL{k:Str}(hk:k.length<10000):k.length<=lim:=aK (cj hk) ()
theorem aha{w r:Nat}{kvs:List (Str×Str)}(hk:some (((wH kvs).lookup mD).getD .n)=some .n)(hp:atIdx s.pr (-1)=some (.b pb))(hl:s.pr.length<1000):PX (dK Y) 70 (dZ Y 119) ((B9 Y).drop 9) (((B9 Y).drop 9).drop 2) (iU q s t m w r pq al) (tg c q s++[(m,jc kvs),(pq,o1),(al,o2)]++R) (λnw=>uq q s t m w r pq al .n) (λnw=>tg c q {s with pr:=s.pr++[.b (pb)]}++[(m,jc kvs),(pq,o1),(al,o2)]++R):=PX.go 2 [n 13,.val λU=>.n,n 1,n 10,n 0,n 1,n 10,.val λU=>.b pb,.keep (List.range 16)] (λU f=>dH m<|dH m<|a (hk)<|dW q<|dH q.pr<|dW q<|dH q.pr<|a (hp)<|dH q.pr<|a (Iw hl)<|f (λU=>0))
theorem ag9{w r:Nat}{kvs:List (Str×Str)}(hk:some (((wH kvs).lookup mD).getD .n)=some (.s ""))(hp:atIdx s.pr (-1)=some (.b pb))(hl:s.pr.length<1000):PX (dK Y) 70 (dZ Y 119) ((B9 Y).drop 9) (((B9 Y).drop 9).drop 2) (iU q s t m w r pq al) (tg c q s++[(m,jc kvs),(pq,o1),(al,o2)]++R) (λnw=>uq q s t m w r pq al (.s "")) (λnw=>tg c q {s with pr:=s.pr++[.b (pb)]}++[(m,jc kvs),(pq,o1),(al,o2)]++R):=PX.go 2 [n 13,.val λU=>.s "",n 1,n 10,n 0,n 1,n 10,.val λU=>.b pb,.keep (List.range 16)] (λU f=>dH m<|dH m<|a (hk)<|dW q<|dH q.pr<|a (yd)<|dW q<|dH q.pr<|a (hp)<|dH q.pr<|a (Iw hl)<|f (λU=>0))
theorem ag8{w r:Nat}{kvs:List (Str×Str)}(hk:some (((wH kvs).lookup mD).getD .n)=some (.s x))(d:x.length<1000)(h0:(x.length !=0)=true)(hl:s.pr.length<1000):PX (dK Y) 70 (dZ Y 119) ((B9 Y).drop 9) (((B9 Y).drop 9).drop 2) (iU q s t m w r pq al) (tg c q s++[(m,jc kvs),(pq,o1),(al,o2)]++R) (λnw=>uq q s t m w r pq al (.s x)) (λnw=>tg c q {s with pr:=s.pr++[.b (x=="preserve")]}++[(m,jc kvs),(pq,o1),(al,o2)]++R):=PX.go 2 [n 13,.val λU=>.s x,n 1,n 10,.n 1,.keep (List.range 16)] (λU f=>dH m<|dH m<|a (hk)<|dW q<|dH q.pr<|a (lL d)<|a (h0)<|dH q.pr<|a (Iw hl)<|f (λU=>0))
def ae2{k v:Str}(hk:k.length<10000)(b:v.length<100000):EE (dK Y) 40 (agJ Y) (adM k v) ((px (e13 Y)).1) ([]++R) (λnw=>.s (atS (k,v))) (λnw=>[]++R):=EE.go [.ea (mK v) R,.keep []] (λU f=>a (u1)<|a (kL hk)<|a (a1 hk)<|a (a2 hk)<|a (afE Y R (cj b))<|λ(c:Pl)=>a (eaL b)<|a (a3 hk b)<|a (a4 hk b)<|f (λU=>0))
theorem afe(Y:Z)(q:Q)(s:S5)(R:LH)(t:Str)(m w r pq al:Nat)(v:V){l:List (Str×Str)}(a:∀p∈l,p.1.length<10000/\p.2.length<100000)(b:l.length<=100):EC (dK Y) 41 (dZ Y 119) (Mh q s t m w r pq al v) (e13 Y) ([(al,.l (l.map pv))]++R) (λx=>.r (x 0)) (λz=>[(al,.l (l.map pv)),(z 0,.l ((l.map atS).map .s))]++R):=
 by
 rw[aR];exact EC.mp (CT.each λp hp=>⟨adM p.1 p.2,λU U=>rfl,ae2 (a p hp).1 (a p hp).2⟩) (by rw[aB];exact aK b ())
theorem acX{w r:Nat}(b:rows.lookup t=some (.t [.s ff,.s g,.s u]))(hf:ff.length<10000)(ho:s.out.length<1000000)(h:s.ns.length<1000):XS (dK Y) 70 (dZ Y 119) (uq q s t m w r pq al v) ((B9 Y).drop 11) (tg c q s++[(pq,.d rows),(al,.l [])]++R) (λnw=>.next) (λnw=>Mh q s t m w r pq al v) (λnw=>tg c q {s with out:=s.out++[.s ("<"++ff)]++[.s ">"],se:=true,ns:=s.ns++[.r s.nv],nv:=nw 0,np:=[]}++((s.nv,.l s.np)::R)):=XS.go [n 1,n 13,.val λU=>.t [.s ff,.s g,.s u],.n 0,n 3,n 14,n 0,n 3,n 0,n 1,n 1,n 8,.uD [0,1,2,3,4,5,6,7,8,9,10,11,15] [0]] (λU f=>dW q<|dH pq<|a (b)<|a (l1 hf)<|dH q.o<|dH q.o<|a (rF ho)<|dH al<|a (yd)<|dH q.o<|dH q.o<|a (oLt (l:=s.out) (.s ("<"++ff)) ho)<|dW q<|dW q<|dH q.nn<|λ(e:Nat)=>dH q.nn<|a (ac6 (s.ns) (.r s.nv) h)<|f (λU=>e))
theorem acY{w r:Nat}(A:rows.lookup t=some (.t [.s ff,.s g,.s u]))(hf:ff.length<10000)(ho:s.out.length<900000)(B:s.ns.length<1000)(k:∀p∈p0::l,p.1.length<10000/\p.2.length<100000)(b:(p0::l).length<=100)(j:JoinOk cJ ((p0::l).map atS)=true):XS (dK Y) 70 (dZ Y 119) (uq q s t m w r pq al v) ((B9 Y).drop 11) (tg c q s++[(pq,.d rows),(al,.l ((p0::l).map pv))]++R) (λnw=>.next) (λnw=>Mh q s t m w r pq al v) (λnw=>tg c q {s with out:=s.out++[.s ("<"++ff)]++[.s (jn ((p0::l).map atS))]++[.s ">"],se:=true,ns:=s.ns++[.r s.nv],nv:=nw 0,np:=[]}++((s.nv,.l s.np)::R)):=XS.go [n 1,n 13,.val λU=>.t [.s ff,.s g,.s u],.n 0,n 3,n 14,n 0,.call 41 [14] (λU z=>.r (z 0)) (λU z=>[(al,.l ((p0::l).map pv)),(z 0,.l (((p0::l).map atS).map .s))]) (λU U=>R),n 15,.strs ((p0::l).map atS),n 3,n 3,n 0,n 1,n 1,n 8,.uD [0,1,2,3,4,5,6,7,8,9,10,11,16] [0]] (λU f=>dW q<|dH pq<|a (A)<|a (l1 hf)<|dH q.o<|dH q.o<|a (ahA ho)<|dH al<|a (avL b)<|a (afe Y q s R t m w r pq al v k b)<|λ(i:Pl)=>a (e (i 0))<|a (gb ((p0::l).map atS))<|a (j)<|dH q.o<|dH q.o<|a (oLt (.s ("<"++ff)) (ac3 ho))<|dH q.o<|dH q.o<|a (o3 (x:=.s ("<"++ff)) (y:=.s (jn ((p0::l).map atS))) ho)<|dW q<|dW q<|dH q.nn<|λh=>dH q.nn<|a (ac6 _ (.r s.nv) B)<|f (λU=>h))
end
section
open To
section
variable {pe:Pe} {n:Nat} {L1:LH} {Q:V->LH->Prop}
inductive XQr (cx:Cx) (n:Nat) (O:Sc) (J:Loc) (body:List Stmt) (H:Hp) (L:LH) (Q:V->LH->Prop):Prop
 |mk (v:V) (l':LH) (fl:Fl) (dI:Loc) (H':Hp) (q:Q v l') (hv:flV fl=some v) (e:vY cx n O body J H fl dI H') (t:Tp H L H' l'):XQr cx n O J body H L Q
def XQ(pe:Pe)(n:Nat)(O:Sc)(J:Loc)(body:List Stmt)(L:LH)(Q:V->LH->Prop):Prop:=∀⦃cx⦄,eY pe cx->∀H,Has H L->XQr cx n O J body H L Q
def PX.vh{eE:Pl->Loc}{l1:Pl->LH}(h:PX pe n O b1 b2 J L eE l1)(b:∀x,XQ pe n O (eE x) b2 (l1 x) Q):XQ pe n O J b1 L Q:=λU P H e=>by
 obtain⟨x,H1,t1,a⟩:=h P H e;obtain⟨v,l',fl,dI,H',q,c,d,t2⟩:=b x P H1 t1.has;exact⟨v,l',fl,dI,H',q,c,a _ _ _ d,t1.trans t2⟩
def XQ.of{fl:Pl->Fl}{dI:Pl->Loc}{v:Pl->V}(h:XS pe n O J body L fl dI l')(c:∀x,flV (fl x)=some (v x))(b:∀x,Q (v x) (l' x)):XQ pe n O J body L Q:=λU P H a=>by
 obtain⟨x,H',e,t⟩:=h P H a;exact⟨_,_,_,_,H',b x,c x,e,t⟩
def XQ.perm(h:XQ pe n O J body L Q)(hl:L1.Perm L):XQ pe n O J body L1 Q:=λU P H a=>by
 obtain⟨v,l',fl,dI,H',q,b,e,t⟩:=h P H (a.to hl.symm);exact⟨v,l',fl,dI,H',q,b,e,t.of hl⟩
def XQ.drop{k:LH}(h:XQ pe n O J body L Q):XQ pe n O J body (L++k) Q:=λU P H a=>by
 obtain⟨v,l',fl,dI,H',q,b,e,t⟩:=h P H (a.sub (cY ..));exact⟨v,l',fl,dI,H',q,b,e,(t.frame a).sub (cY ..)⟩
def CC.ofQ{ps:List (Str×Src)}{y:V}{v:Pl->V}(i:yW pe f k kn ps O body)(hk:args.length+1=k)(j:kw.map (·.1)=kn)(h:XQ pe n O (ps.map λp=>(p.1,p.2.get (y::args) (kw.map (·.2)))) body L λw l=>∃x:Pl,w=v x/\l=l' x):CC pe (n+1) (.m f y) args kw L v l':=CC.mt λU P H c=>by
 obtain⟨fd,h1,a,d,g⟩:=i.go;obtain⟨w,l,fl,dI,H',⟨x,rfl,rfl⟩,b,e,t⟩:=h P H c;subst hk j;exact⟨x,H',iR P h1 a d g e b,t⟩
end
variable {s:S5} {R:LH}
theorem p0(h:fO at'):PX (dK Y) 70 (dZ Y 119) (B9 Y) ((B9 Y).drop 1) (Mi q s t m) (tg c q s++[(m,fG (dO at'))]++R) (λnw=>Mi q s t (nw 0)) (λnw=>tg c q s++[(nw 0,jc (dO (fY c at')))]++R):=by
 cases at' with
 |nil=>exact(PX.go 1 [n 1,n 0,n 13,n 0,.keep (List.range 14)] (λU f=>dW q<|dH m<|a (yd)<|f (λU=>m)))
 |cons p0 l=>exact(PX.go 1 [n 1,n 0,n 13,n 0,.call 20 (List.range 14) (λU x=>.r (x 0)) (λU x=>tg c q s++[(m,fG (dO (p0::l))),(x 0,fG (dO (fY c (p0::l))))]) (λU U=>R),.keep [0,1,2,3,4,5,6,7,8,9,10,11,12,14]] (λU f=>dW q<|dH m<|a (kLen h)<|a (ain Y c q s R t m h)<|λb=>f (b)))
def p7{w r:Nat}{A:List Str}(b:∀u∈N,(pfx c A u).length<1000)(a:N.length<=5):PX (dK Y) 70 (dZ Y 119) ((B9 Y).drop 7) (((B9 Y).drop 7).drop 1) (Aa q s t m w r pq) (tg c q (s.na c (N,A))++[(m,o1),(pq,o2)]++R) (λnw=>iU q s t m w r pq (nw 0)) (λnw=>tg c q (s.na c (N,A))++[(m,o1),(pq,o2),(nw 0,.l ((FP c A N).map (lbl c A)))]++R):=by
 cases N with
 |nil=>exact ahd
 |cons u N=>exact ahe b a
theorem p8{w r:Nat}{A:List Str}(a:fO l)(h:∀p∈l,p.1∈iz/\rows.lookup p.1.q=some (zp c A p.1))(hl:xs.length<800):PX (dK Y) 70 (dZ Y 119) ((B9 Y).drop 8) (((B9 Y).drop 8).drop 1) (iU q s t m w r pq al) (tg c q s++[(m,jc (dO l)),(pq,.d rows),(al,.l xs)]++R) (λnw=>iU q s t m w r pq al) (λnw=>tg c q s++[(m,jc (dO l)),(pq,.d rows),(al,.l (xs++(jT l).map λp=>.t [.s (vo c A p.1),.s p.2]))]++R):=by
 cases l with
 |nil=>
  rw[show xs++(jT []).map (λp=>V.t [.s (vo c A p.1),.s p.2])=xs from aX xs];exact ahb
 |cons b l=>exact ahc a h hl
noncomputable def V4(pb:Bool)(o:Option Str):Bool:=o.elim pb λx=>if x.length=0 then pb else x=="preserve"
def Dm(kvs:List (Str×Str))(k:Str):(wH kvs).lookup k=(kvs.lookup k).map .s:=by
 induction kvs with
 |nil=>rfl
 |cons p kvs ih=>
  rw[bx,bx];cases k==p.1
  exact ih
  rfl
theorem p9{w r:Nat}{kvs:List (Str×Str)}(a:∀x,kvs.lookup mD=some x->x.length<1000)(hp:atIdx s.pr (-1)=some (.b pb))(hl:s.pr.length<1000):∃v,PX (dK Y) 70 (dZ Y 119) ((B9 Y).drop 9) (((B9 Y).drop 9).drop 2) (iU q s t m w r pq al) (tg c q s++[(m,jc kvs),(pq,o1),(al,o2)]++R) (λnw=>uq q s t m w r pq al v) (λnw=>tg c q {s with pr:=s.pr++[.b (V4 pb (kvs.lookup mD))]}++[(m,jc kvs),(pq,o1),(al,o2)]++R):=by
 have hk:=Dm kvs mD;cases e:kvs.lookup mD with
 |none=>rw[e]at hk;exact⟨_,aha (by rw[hk];rfl) hp hl⟩
 |some x=>
  rw[e]at hk;by_cases h0:x.length=0
  rw[jQ h0]at hk ⊢;exact⟨_,ag9 (by rw[hk];rfl) hp hl⟩
  rw[show V4 pb (some x)=(x=="preserve")from if_neg h0];exact⟨_,ag8 (by rw[hk];rfl) (a x e) (vH h0) hl⟩
def xg(f:Str)(l:List (Str×Str)):List V:=[.s ("<"++f)]++(if l=[]then[]else[.s (jn (l.map atS))])++[.s ">"]
noncomputable def S5.sd(s:S5)(o:List V)(nv:Nat):S5:={s with out:=s.out++o,se:=true,ns:=s.ns++[.r s.nv],nv:=nv,np:=[]}
theorem p11{w r:Nat}(b:rows.lookup t=some (.t [.s f,.s g,.s u]))(hf:f.length<10000)(ho:s.out.length<900000)(e:s.ns.length<1000)(j:∀p∈l,p.1.length<10000/\p.2.length<100000)(h:l.length<=100)(i:JoinOk cJ (l.map atS)=true):XQ (dK Y) 70 (dZ Y 119) (uq q s t m w r pq al v) ((B9 Y).drop 11) (tg c q s++[(pq,.d rows),(al,.l (l.map pv))]++R) λw l'=>∃x:Pl,w=.n/\l'=tg c q (s.sd (xg f l) (x 0))++((s.nv,.l s.np)::R):=by
 cases l with
 |nil=>
  refine XQ.of (v:=λU=>.n) (acX b hf (ac3 ho) e) (λU=>rfl) λx=>⟨x,rfl,?_⟩;rw[show s.sd (xg f []) (x 0)={s with out:=s.out++[.s ("<"++f)]++[.s ">"],se:=true,ns:=s.ns++[.r s.nv],nv:=x 0,np:=[]}by
   unfold S5.sd xg;rw[if_pos rfl,aX,<- aQ]]
 |cons a l=>
  refine XQ.of (v:=λU=>.n) (acY b hf ho e j h i) (λU=>rfl) λx=>⟨x,rfl,?_⟩;rw[show s.sd (xg f (a::l)) (x 0)={s with out:=s.out++[.s ("<"++f)]++[.s (jn ((a::l).map atS))]++[.s ">"],se:=true,ns:=s.ns++[.r s.nv],nv:=x 0,np:=[]}by
   unfold S5.sd xg;rw[if_neg (dG _ _),<- aQ,<- aQ]]
def En{B:Nat}(h:∀x∈l,x.length<=B):(cat l).length<=l.length*B:=by
 induction l with
 |nil=>lia
 |cons x l ih=>
  show(x++cat l).length<=_;rw[fJ,aO,Nat.add_mul,Nat.one_mul,Nat.add_comm];exact dg (ih λy a=>h y (.tail _ a)) (h x (.head _))
def Vs(h:p.1.length<10000/\p.2.length<100000):(atS p).length<=700000:=by
 unfold atS;rw[fJ,fJ,fJ,fJ];have h1:(cJ++" ").length<=1:=fM rfl;have c:("=\"":Str).length<=2:=fM rfl;have a:("\"":Str).length<=1:=fM rfl;have b:=lN (cj h.2);have d:=h.1;lia
def atJ{l:List (Str×Str)}(c:∀p∈l,p.1.length<10000/\p.2.length<100000)(b:l.length<=10):JoinOk cJ (l.map atS)=true:=qO (by
 have h:=En λx a=>by
  obtain⟨p,hp,rfl⟩:=aF a;exact Vs (c p hp)
 rw[aB]at h;exact aK h ())
def pU{A:List Str}{m:N5}(a:ju A)(h:m∈iz):(gY c A m.uri m.tag).length<5000:=by
 have hk:=jK h;have hl:=hk.f.lt;unfold gY;by_cases e:m.uri=""/\c.rw=false
 lia
 rw[if_neg e];unfold lF;by_cases h0:(pfx c A m.uri).length=0
 lia
 rw[if_neg h0,fJ,fJ,fJ];have h1:=iT (c:=c) a hk.u;lia
def Mv{A:List Str}(h:(pfx c A u).length<1000):(Ai c A u).length<5000:=by
 unfold Ai;by_cases h0:(pfx c A u).length=0
 rw[if_pos h0];exact aU (show("xmlns":Str).length<=5 from fM rfl) ()
 rw[if_neg h0,fJ];lia
def gR(c:Cf)(x:List Str×List Str)(l:List (N5×Str)):List (Str×Str):=(FP c x.2 x.1).map (λu=>(Ai c x.2 u,u))++(jT l).map λp=>(vo c x.2 p.1,p.2)
def KR(c:Cf)(x:List Str×List Str)(l:List (N5×Str)):(gR c x l).map pv=(FP c x.2 x.1).map (lbl c x.2)++(jT l).map λp=>.t [.s (vo c x.2 p.1),.s p.2]:=by
 unfold gR;rw[aH,aR,aR];rfl
theorem tY(d:ju x.2)(g:∀u∈x.1,u∈U5)(e:x.1.length<=5)(hl:fO l):(∀p∈gR c x l,p.1.length<10000/\p.2.length<100000)/\(gR c x l).length<=10:=by
 refine⟨λp hp=>?_,?_⟩
 rcases aD hp with hp|hp
 obtain⟨u,a,rfl⟩:=aF hp;have a:=g u (j9 e u a);exact⟨cA (Mv (iT d a)) (),cA ((by decide+kernel:∀u∈U5,u.length<1000) u a) ()⟩
 obtain⟨p,b,rfl⟩:=aF hp;have hp:=j9 (aK hl.len ()) p b;refine⟨?_,cA (hl.val p hp) ()⟩;unfold vo;by_cases h0:p.1.uri.length=0
 rw[if_pos h0];exact cA (jK (hl.mem p hp)).f.lt ()
 rw[if_neg h0];exact cA (pU d (hl.mem p hp)) ()
 unfold gR;rw[aC,aB,aB];have h1:(FP c x.2 x.1).length=x.1.length:=nJ e;have h:(jT l).length=l.length:=nJ (aK hl.len ());have:=hl.len;lia
def Wm{A:List Str}{m:N5}(a:(ms.map (·.q)).Nodup)(h:m∈ms):(ms.map λm=>(m.q,zp c A m)).lookup m.q=some (zp c A m):=by
 induction ms with
 |nil=>lia
 |cons p ms ih=>
  rw[cC,cB]at a;rw[cC,bx];rcases aA h with e|h
  ·rw[e,bA]
  ·have:m.q≠p.q:=λe=>a.1 (e▸aJ h);rw[bB this];exact ih a.2 h
def G3:∀{x:List Str×List Str},(∀m∈ms,m∈iz)->qx c (s.na c x) R x.2 (x.1++D0)->qx c (s.na c (gK c D0 ms x)) R (gK c D0 ms x).2 ((gK c D0 ms x).1++D0):=by
 induction ms with
 |nil=>exact λU h=>h
 |cons m ms ih=>exact λa h=>ih (λy b=>a y (.tail _ b)) (h.step (jK (a m (.head _))).u).1
structure afT (c:Cf) (s:S5) (R:LH) (A D0:List Str) (t:N5) (at':List (N5×Str)) (pb:Bool):Prop where
 at':fO at'
 t:t∈iz
 dc:qx c (s.na c ([],A)) R A D0
 hp:atIdx s.pr (-1)=some (.b pb)
 pr:s.pr.length<1000
 ns:s.ns.length<1000
 out:s.out.length<900000
def Gh(c:Cf)(t:N5)(at':List (N5×Str)):List N5:=Il t.q (fY c at')
def S5.st(s:S5)(c:Cf)(A D0:List Str)(t:N5)(at':List (N5×Str))(pb:Bool)(nv:Nat):S5:=
 S5.sd {s.na c (gK c D0 (Gh c t at') ([],A))with pr:=s.pr++[.b (V4 pb ((dO (fY c at')).lookup mD))]} (xg (gY c (gK c D0 (Gh c t at') ([],A)).2 t.uri t.tag) (gR c (gK c D0 (Gh c t at') ([],A)) (fY c at'))) nv
def Ml{α a:Type}[BEq α][LawfulBEq α]{l:List (α×a)}{k:α}{v:a}(h:l.lookup k=some v):(k,v)∈l:=by
 induction l with
 |nil=>exact gB h
 |cons p l ih=>
  rw[bx]at h;cases e:k==p.1 with
  |true=>rw[e]at h;cases h;rw[beq_iff_eq.mp e];exact .head _
  |false=>rw[e]at h;exact .tail _ (ih h)
theorem aht(Y:Z)(q:Q){A:List Str}{t:N5}(h:afT c s R A D0 t at' pb):CC (dK Y) 71 (.m 119 (.r q.i)) [.s t.q,.r m,.r s.lv] [] (tg c q (s.na c ([],A))++[(m,fG (dO at'))]++R) (λU=>.n) (λx=>tg c q (s.st c A D0 t at' pb (x 0))++((s.nv,.l s.np)::R)):=by
 have g:=h.at'.fY c;have j:∀m∈Gh c t at',m∈iz:=Wh;have hf:=G3 j h.dc;obtain⟨G,H⟩:=HD (aJ h.t) g;have K:=λm w r=>p6 (Y:=Y) (q:=q) (t:=t.q) (m:=m) (w:=w) (r:=r) (kvs:=dO (fY c at')) (ms:=Gh c t at') h.dc G H j Lq (dF _ _);unfold S5.st;generalize gK c D0 _ ([],A)=x at hf K;obtain⟨N,a⟩:=x;have dom:=λu E=>(hf.dom u (cH _ E)).1;have F:N.length<=5:=List.Nodup.length_le_of_subset (List.nodup_append.mp hf.nd).1 λU=>dom _;have B:=tY (c:=c) hf.num dom F g;have P:(FP c a N).length=N.length:=nJ F;refine CC.ofQ ⟨_,Jb Y.P Y.sa Y.is,Hz Y.P,by kernel_rfl,rfl⟩ rfl rfl ((p0 h.at').vh λC=>(p1 (by
  rw[show(dO _).length=(fY c at').length from aB ..];exact g.len)).vh λz=>(K _ _ _).vh λI=>(p7 (λu E=>iT hf.num (dom u E)) F).vh λD=>(p8 g (λp hp=>⟨g.mem p hp,Wm Lq (List.mem_filter.mpr ⟨g.mem p hp,bC (.tail _ (aJ (f:=λp:N5×Str=>p.1.q) hp))⟩)⟩) (by
   rw[aB];lia)).vh λV=>?_)
 obtain⟨v,M⟩:=p9 (s:=s.na c _) (kvs:=dO _) (o1:=.d _) (o2:=.l _) (λy L=>by
  obtain⟨p,hp,e⟩:=aF (Ml L);exact(show p.2=y from congrArg Prod.snd e)▸g.val p hp) h.hp h.pr
 refine M.vh λS=>?_;have o:=p11 (Y:=Y) (c:=c) (q:=q) (s:={s.na c (N,a)with pr:=s.pr++[.b (V4 pb ((dO (fY c at')).lookup mD))]}) (R:=R) (m:=C 0) (w:=z 0) (r:=z 1) (pq:=I 0) (al:=D 0) (v:=v) (rows:=(Gh c t at').map λm=>(m.q,zp c a m)) (Wm Lq (List.mem_filter.mpr ⟨h.t,bC (.head _)⟩)) (cA (pU hf.num h.t) ()) h.out h.ns B.1 () (atJ B.1 B.2);rw[KR]at o;refine XQ.perm (o.drop (k:=[(C 0,jc (dO (fY c at')))])) ?_;rw[aQ];exact List.Perm.append_left _ (c7 (l₁:=[(C 0,jc _)]))
end
section
open To
variable {s:S5} {R:LH}
noncomputable def S5.op(s:S5)(m:Nat):S5:={s with ds:=s.ds++[.r s.lv],lv:=m,lp:=[]}
def tgA(c:Cf)(q:Q)(s:S5):LH:=(tg c q s).take 11
def agN(c:Cf)(q:Q)(s:S5)(m:Nat)(kvs:List (Str×Str))(a:Nat):LH:=tgA c q (s.op a)++[(s.lv,.l s.lp),(s.nv,.l s.np),(m,fG kvs),(a,.l [])]
noncomputable def two(s:S5):LH:=[(s.nv,.l s.np),(s.lv,.l s.lp)]
def abY{α:Type}{a b c d:α}{R:List α}:(a::b::c::d::R).Perm (d::b::c::a::R):=((cG (l₁:=[b,c,d])).symm).trans (cG (l₁:=[b,c]))
def Sta(Y:Z)(c:Cf)(q:Q)(s:S5)(R:LH)(t:Str)(m:Nat)(kvs:List (Str×Str))(s2:Nat->Nat->S5):Prop:=∀a,CC (dK Y) 71 (.m 119 (.r q.i)) [.s t,.r m,.r a] [] (tg c q (s.op a)++[(m,fG kvs)]++((s.lv,.l s.lp)::R)) (λU=>.n) (λx=>tg c q (s2 a (x 0))++((s.nv,.l s.np)::(s.lv,.l s.lp)::R))
def Ke{kvs:List (Str×Str)}{s2:Nat->Nat->S5}(h:Sta Y c q s R t m kvs s2)(a:Nat):CC (dK Y) 71 (.m 119 (.r q.i)) [.s t,.r m,.r a] [] (agN c q s m kvs a++R) (λU=>.n) (λx=>tg c q (s2 a (x 0))++two s++R):=
 (h a).perm (abY.append_left (tgA c q _)) λx=>by rw[aQ]
def da0(hd:s.da=[]):s.da.length<=lim:=by rw[hd];exact yd
def da1(hd:s.da=[]):(!s.da.isEmpty)=false:=by rw[hd];rfl
def dsL(v:V)(h:l.length<900):(l++[v]).length<lim:=aC▸aM (Nat.add_lt_add_right h 1) ()
def ab0(h:(s.ig !=0)=true):CC (dK Y) 91 (.m 113 (.r q.i)) [.s t,.r m] [] (tg c q s++R) (λnw=>.n) (λnw=>tg c q {s with ig:=s.ig+1}++R):=CC.jZ sU rfl rfl [n 1,n 0,n 1,.n 1,n 1,.keep fX] (λU f=>dW q<|dW q<|a (h)<|dW q<|dW q<|f (λU=>0))
def abZ(h:(s.ig !=0)=false)(b:gone.contains t=true):CC (dK Y) 91 (.m 113 (.r q.i)) [.s t,.r m] [] (tg c q s++R) (λnw=>.n) (λnw=>tg c q {s with ig:=s.ig+1}++R):=CC.jZ sU rfl rfl [n 1,n 0,n 1,.n 2,n 1,n 6,.n 1,n 1,.keep fX] (λU f=>dW q<|dW q<|a (h)<|dW q<|dH q.et<|a (b)<|dW q<|dW q<|f (λU=>0))
theorem ab2{kvs:List (Str×Str)}{s2:Nat->Nat->S5}(h:(s.ig !=0)=false)(e:gone.contains t=false)(hd:s.da=[])(hl:s.ds.length<900)(g:Sta Y c q s R t m kvs s2):CC (dK Y) 91 (.m 113 (.r q.i)) [.s t,.r m] [] (tg c q s++[(m,fG kvs)]++R) (λnw=>.n) (λnw=>tg c q (s2 (nw 0) (nw 1))++two s++R):=CC.jZ sU rfl rfl [n 1,n 0,n 1,.n 2,n 1,n 6,.n 2,n 1,n 4,.n 2,n 1,n 7,n 1,n 0,n 1,.call 71 (List.range 15) (λU U=>.n) (λz x=>tg c q (s2 (z 14) (x 0))++two s) (λU U=>R),.keep (List.range 15)] (λU f=>dW q<|dW q<|a (h)<|dW q<|dH q.et<|a (e)<|dW q<|dH q.da<|a (da0 hd)<|a (da1 hd)<|λb=>dW q<|dH q.dc<|dH q.dc<|a (dsL (.r s.lv) hl)<|dW q<|dW q<|a (Ke g b)<|λ(d:Pl)=>f (pl2 b (d 0)))
theorem ab1{kvs:List (Str×Str)}{s2:Nat->Nat->S5}(hi:(s.ig !=0)=false)(d:gone.contains t=false)(h:Dat s l pb)(g:(!s.da.isEmpty)=true)(hl:s.ds.length<900)(e:Sta Y c q (s.fl c l pb) R t m kvs s2):CC (dK Y) 91 (.m 113 (.r q.i)) [.s t,.r m] [] (tg c q s++[(m,fG kvs)]++R) (λnw=>.n) (λnw=>tg c q (s2 (nw 0) (nw 1))++two s++R):=CC.jZ sU rfl rfl [n 1,n 0,n 1,.n 2,n 1,n 6,.n 2,n 1,n 4,.n 1,n 1,.me 31 .n (tg c q (s.fl c l pb)) R,n 1,n 7,n 1,n 0,n 1,.call 71 (List.range 15) (λU U=>.n) (λz x=>tg c q (s2 (z 14) (x 0))++two s) (λU U=>R),.keep (List.range 15)] (λU f=>dW q<|dW q<|a (hi)<|dW q<|dH q.et<|a (d)<|dW q<|dH q.da<|a (oH h.hd)<|a (g)<|dW q<|a (lV Y c q R h)<|λ(j:Pl)=>λb=>dW q<|dH q.dc<|dH q.dc<|a (dsL (.r s.lv) hl)<|dW q<|dW q<|a (Ke e b)<|λ(m2:Pl)=>f (pl2 b (m2 0)))
end
section
open To
variable {s:S5} {R:LH}
noncomputable def S5.up(s:S5)(lv nv:Nat)(b:Bool):S5:={s with ds:=s.ds++[.r lv],ns:=s.ns++[.r nv],pr:=s.pr++[.b b]}
noncomputable def S5.dw(s:S5)(lv nv:Nat)(lp np:List V)(o:Str):S5:={s with lv:=lv,nv:=nv,lp:=lp,np:=np,out:=s.out++[.s o],dn:=((s.pr.length:Int)==1)}
def e2{f:Str}(h:f.length<10000):(cJ++"</").length+f.length<=lim:=aK (dg (show(cJ++"</").length<=2 from fM rfl) (cj h)) ()
def e3(h:f.length<10000):(cJ++"</"++f).length+(">":Str).length<=lim:=by
 rw[fJ];exact aK (dg (dg (show(cJ++"</").length<=2 from fM rfl) (cj h)) (show(">":Str).length<=1 from fM rfl)) ()
def rC(xs:List V)(x:V)(h:xs.length<900):xs++[x]=xs++[x]/\(xs++[x]).length<=lim:=⟨rfl,cj (dsL x h)⟩
def f1e(f:Str):some (V.s f)=some (V.s f):=rfl
def aeL(h:(s.ig !=0)=true):CC (dK Y) 91 (.m 126 (.r q.i)) [.s t] [] (tg c q s++R) (λnw=>.n) (λnw=>tg c q {s with ig:=s.ig-1}++R):=CC.jZ Nu rfl rfl [n 1,.n 1,n 1,.keep fX] (λU f=>dW q<|a (h)<|dW q<|dW q<|f (λU=>0))
theorem aeN(h:(s.ig !=0)=false)(hd:s.da=[])(g:CC (dK Y) 51 (.m 83 (.r q.i)) [.s t] [] (tg c q (s.up lv nv b)++[(nv,.l np),(lv,.l lp)]++R) (λU=>.t [.s f1,.s f2,.s f3]) (λU=>tg c q (s.up lv nv b)++[(nv,.l np),(lv,.l lp)]++R))(hf:f1.length<10000)(ho:s.out.length<1000000)(hp:s.pr.length<900)(e:(s.ds++[V.r lv]).length<900)(d:(s.ns++[V.r nv]).length<900):CC (dK Y) 91 (.m 126 (.r q.i)) [.s t] [] (tg c q (s.up lv nv b)++[(nv,.l np),(lv,.l lp)]++R) (λnw=>.n) (λnw=>tg c q (s.dw lv nv lp np (cJ++"</"++f1++">"))++R):=CC.jZ Nu rfl rfl [n 1,.n 2,n 1,n 4,.n 2,n 1,n 1,.call 51 (List.range 15) (λU U=>.t [.s f1,.s f2,.s f3]) (λU U=>tg c q (s.up lv nv b)++[(nv,.l np),(lv,.l lp)]) (λU U=>R),.val λU=>.s f1,n 3,n 1,n 10,.zU (λU=>s.pr) (λU=>.b b),n 1,n 10,n 1,n 1,n 7,.zU (λU=>s.ds++[.r lv]) (λU=>.r s.lv),n 1,n 8,.zU (λU=>s.ns++[.r nv]) (λU=>.r s.nv),.uD [0,1,2,3,4,5,6,7,8,9,10,14] [2]] (λU f=>dW q<|a (h)<|dW q<|dH q.da<|a (da0 hd)<|a (da1 hd)<|dW q<|a (u2)<|dW q<|a (g)<|λ(j:Pl)=>a (f1e f1)<|a (kL hf)<|a (e2 hf)<|a (e3 hf)<|dH q.o<|dH q.o<|a (rF ho)<|dW q<|dH q.pr<|dH q.pr<|a (rC s.pr (.b b) hp)<|dW q<|dH q.pr<|a (cj (cA hp (show 900<lim by decide)))<|dW q<|dW q<|dH q.dc<|dH q.dc<|a (rC (s.ds++[.r lv]) (.r s.lv) e)<|dW q<|dH q.nn<|dH q.nn<|a (rC (s.ns++[.r nv]) (.r s.nv) d)<|f (λU=>0))
theorem aeM(hi:(s.ig !=0)=false)(h:Dat (s.up lv nv b) l pb)(k:(!s.da.isEmpty)=true)(j:CC (dK Y) 51 (.m 83 (.r q.i)) [.s t] [] (tg c q ((s.up lv nv b).fl c l pb)++[(nv,.l np),(lv,.l lp)]++R) (λU=>.t [.s f1,.s f2,.s f3]) (λU=>tg c q ((s.up lv nv b).fl c l pb)++[(nv,.l np),(lv,.l lp)]++R))(hf:f1.length<10000)(ho:s.out.length<1000000)(hp:s.pr.length<900)(g:(s.ds++[V.r lv]).length<900)(d:(s.ns++[V.r nv]).length<900)(e:(s.fl c l pb).out.length<1000000):CC (dK Y) 91 (.m 126 (.r q.i)) [.s t] [] (tg c q (s.up lv nv b)++[(nv,.l np),(lv,.l lp)]++R) (λnw=>.n) (λnw=>tg c q ((s.fl c l pb).dw lv nv lp np (cJ++"</"++f1++">"))++R):=CC.jZ Nu rfl rfl [n 1,.n 2,n 1,n 4,.n 1,n 1,.call 31 (List.range 15) (λU U=>.n) (λU U=>tg c q ((s.up lv nv b).fl c l pb)++[(nv,.l np),(lv,.l lp)]) (λU U=>R),n 1,n 1,.call 51 (List.range 15) (λU U=>.t [.s f1,.s f2,.s f3]) (λU U=>tg c q ((s.up lv nv b).fl c l pb)++[(nv,.l np),(lv,.l lp)]) (λU U=>R),.val λU=>.s f1,n 3,n 1,n 10,.zU (λU=>s.pr) (λU=>.b b),n 1,n 10,n 1,n 1,n 7,.zU (λU=>s.ds++[.r lv]) (λU=>.r s.lv),n 1,n 8,.zU (λU=>s.ns++[.r nv]) (λU=>.r s.nv),.uD [0,1,2,3,4,5,6,7,8,9,10,14] [2]] (λU f=>dW q<|a (hi)<|dW q<|dH q.da<|a (oH h.hd)<|a (k)<|dW q<|a (lV Y c q ([(nv,.l np),(lv,.l lp)]++R) h)<|λ(u:Pl)=>dW q<|a (u2)<|dW q<|a (j)<|λ(p:Pl)=>a (f1e f1)<|a (kL hf)<|a (e2 hf)<|a (e3 hf)<|dH q.o<|dH q.o<|a (rF e)<|dW q<|dH q.pr<|dH q.pr<|a (rC s.pr (.b b) hp)<|dW q<|dH q.pr<|a (cj (cA hp (show 900<lim by decide)))<|dW q<|dW q<|dH q.dc<|dH q.dc<|a (rC (s.ds++[.r lv]) (.r s.lv) g)<|dW q<|dH q.nn<|dH q.nn<|a (rC (s.ns++[.r nv]) (.r s.nv) d)<|f (λU=>0))
end
section
open To
section
variable {pe:Pe} {n:Nat} {f g:Addr} {ps:List (Str×Src)}
theorem CC.cls(hi:pe.init f=some g)(i:yW pe g k kn ps O body)(hk:args.length+1=k)(a:kw.map (·.1)=kn)(h:∀j d,XQ pe n O (ps.map λp=>(p.1,p.2.get (.r j::args) (kw.map (·.2)))) body ([(j,.i f d),(d,.n [])]++L) λw l=>w=.n/\∃x:Pl,x 0=j/\l=l' x):CC pe (n+1) (.f f) args kw L (λx=>.r (x 0)) l':=λU P H q=>by
 obtain⟨fd,h1,b,u,s⟩:=i.go;have t1:=Tp.new (o:=.n []) q;have t2:=Tp.new (o:=.i f H.n) t1.has;obtain⟨w,l,fl,dI,H',⟨rfl,x,m,rfl⟩,c,e,t⟩:=h _ H.n P _ t2.has;subst hk a;refine⟨x,H',?_,(t1.trans t2).trans t⟩;show gV _ _ _ _ _ _ (.r _) _;rw[m];exact aco P hi (iR P h1 b u s e c)
end
variable {s:S5} {R:LH}
def Ac(c:Cf)(j o le lt:Nat):Loc:=[("self",.r j),("write",.k .jh (.r o)),("with_comments",.b c.cm),("strip_text",.b c.st),("rewrite_prefixes",.b c.rw),("qname_aware_tags",.n),("qname_aware_attrs",.n),("exclude_attrs",.r le),("exclude_tags",.r lt)]
def Cf.fj(c:Cf):List Str:=bif c.bl then["z","{v}z",mD]else["z","{v}z"]
noncomputable def g8:List Str:=["{u}x","{v}x"]
abbrev B60(Y:Z):List Stmt:=fQ Y 60
def tI(c:Cf)(q:Q)(k:Nat)(ls:List Str)(nn:List V)(lv:Nat):LH:=[(0,.t 116 fP),(q.i,.i 143 q.d),(q.d,.n ((nsv c q false false 0).take k)),(q.o,.l []),(q.da,.l []),(q.ea,.e ls),(q.et,.e gone),(q.dc,.l [.r lv]),(q.nn,.l nn),(lv,.l [pv (eG,"xml")])]
def S5.i0(xT:List V)(lv nv:Nat):S5:=⟨[],[],[],xT,lv,nv,[pv (eG,"xml")],[],[],[.b false],false,false,0⟩
def tI2(c:Cf)(q:Q)(xT:List V)(lv nv:Nat):LH:=(0,.t 116 fP)::(q.i,.i 143 q.d)::(q.d,.n ((nsv c q false false 0).take 17))::(tg c q (S5.i0 xT lv nv)).drop 3
noncomputable def Qi(l:List Nat):Pl:=λi=>l.getD i 0
noncomputable def qI(j d o:Nat)(z:Pl):Q:=⟨j,d,o,z 0,z 1,z 2,z 3,z 4,0,0⟩
def SM(c:Cf):fH [] c.fj=c.lost:=by
 unfold Cf.fj Cf.lost;cases c.bl <;> decide+kernel
def z8(c:Cf):c.fj.length<=100:=by
 unfold Cf.fj;cases c.bl <;> decide+kernel
def SJ(c:Cf):(!(c.fj.map V.s).isEmpty)=true:=by
 unfold Cf.fj;cases c.bl <;> rfl
def LR(c:Cf):(c.fj.map V.s).length<=lim:=by
 rw[aB];exact aK (z8 c) ()
def le2:2<=100:=()
def m8{n:Nat}(h:n<900):n<lim:=cA h ()
noncomputable def Dh:List (Str×Str):=[("http://www.w3.org/XML/1998/namespace","xml"),("http://www.w3.org/1999/xhtml","html"),("http://www.w3.org/1999/02/22-rdf-syntax-ns#","rdf"),("http://schemas.xmlsoap.org/wsdl/","wsdl"),("http://www.w3.org/2001/XMLSchema","xs"),("http://www.w3.org/2001/XMLSchema-instance","xsi"),("http://purl.org/dc/elements/1.1/","dc")]
theorem ahO(Y:Z)(c:Cf)(q:Q)(R:LH)(le lt lv:Nat)(h:c.rw=false):PX (dK Y) 60 (dZ Y 60) ((B60 Y).drop 11) (((B60 Y).drop 11).drop 1) (Ac c q.i q.o le lt) (tI c q 11 c.lost [] lv++R) (λU=>Ac c q.i q.o le lt) (λx=>tI c q 11 c.lost [.r (x 0)] lv++((x 0,.l (Dh.map pv))::R)):=λU P H j=>by
 obtain⟨st,g,cm,bl,ba⟩:=c;subst h;have el:=λp hp=>j.el p ();have f2:H.f q.d=.n _:=(el _ (bY (i:=2) rfl)).2;have b:=el (q.nn,.l []) (bY (i:=8) rfl);have hf:fld (dK Y) H "_ns_stack" (.r q.i)=some (.r q.nn):=by
  show Um _ H _ q.i (H.f q.i)=_;rw[((el _ (bY (i:=1) rfl)).2)];show Ay _ _ q.i 143 (H.f q.d)=_;rw[f2];kernel_rfl
 have t1:=Tp.new (o:=.l (Dh.map pv)) j;have hp:∀x:List V,((H.n,dN.l (Dh.map pv))::(tI ⟨st,false,cm,bl,ba⟩ q 11 (Cf.lost ⟨st,false,cm,bl,ba⟩) x lv++R)).Perm ((q.nn,.l x)::((H.n,.l _)::((tI ⟨st,false,cm,bl,ba⟩ q 11 _ x lv).take 8++((lv,.l [pv (eG,"xml")])::R)))):=λx=>
  ((cG (l₁:=(tI ⟨st,false,cm,bl,ba⟩ q 11 _ x lv).take 8)).cons _).trans (.swap ..)
 have t2:=Tp.put (o:=.l [.r H.n]) (t1.has.to (hp []).symm);refine⟨λU=>H.n,_,((t1.trans (t2.of (hp []))).to (hp [.r H.n])).to cG,λfl dI H2 e=>d7 (W9 (VR (V0 P rfl (iJ P rfl) rfl)) (d7 (Jz rfl (yH P rfl rfl () (OJ P rfl (iJ P rfl) hf) (attr_list (xs:=[]) b.2 rfl) rfl (m7 rfl (Ux P rfl (by kernel_rfl) (by kernel_rfl) (by rfl) rfl) wG) Aq (Yk P (wA (xs:=[]) ((if_neg (aY b.1)).trans b.2) (fM rfl) rfl)))) jP)) e⟩
theorem ahP{o le lt:Nat}:PX (dK Y) 60 (dZ Y 60) (B60 Y) ((B60 Y).drop 11) (Ac c j o le lt) ([(0,.t 116 fP),(j,.i 143 d),(d,.n []),(o,.l []),(le,.l (c.fj.map .s)),(lt,.l (g8.map .s))]++R) (λnw=>Ac c j o le lt) (λnw=>(tI c (qI j d o nw) 11 (fH [] c.fj) [] (nw 5)).take 9++[(le,.l (c.fj.map .s)),(lt,.l (g8.map .s)),(nw 5,.l [pv (eG,"xml")])]++R):=PX.go 11 [n 1,n 1,n 1,n 1,n 4,.n 1,n 4,.strs c.fj,n 1,n 5,n 0,n 5,.n 0,n 1,n 1,n 0,n 1,n 0,n 1,n 1,n 1,.uD [0,1,2,3,6,7,8,10,11] [0,1,2]] (λU f=>dH j<|dH d<|λe=>dH j<|dH d<|dH j<|dH d<|dH j<|dH d<|dH le<|a (LR c)<|a (SJ c)<|dH le<|a (gb c.fj)<|a (z8 c)<|λg=>dH j<|dH d<|dH lt<|a (u2)<|dH lt<|a (le2)<|λm2=>dH j<|dH d<|dH j<|dH d<|dH j<|dH d<|dH j<|dH d<|λh=>λb=>dH j<|dH d<|λk=>dH j<|dH d<|f (Qi [e,g,m2,b,k,h]))
def ahN(h:c.rw=true):PX (dK Y) 60 (dZ Y 60) ((B60 Y).drop 11) (((B60 Y).drop 11).drop 1) (Ac c q.i q.o le lt) (tI c q 11 c.lost [] lv++R) (λnw=>Ac c q.i q.o le lt) (λnw=>tI c q 11 c.lost [] lv++R):=PX.go 1 [.n 1,.keep (List.range 10)] (λU f=>a (h)<|f (λU=>0))
theorem ad8(h:xT.length<900):XS (dK Y) 60 (dZ Y 60) (Ac c q.i q.o le lt) ((B60 Y).drop 12) (tI c q 11 c.lost xT lv++R) (λnw=>.next) (λnw=>Ac c q.i q.o le lt) (λnw=>tI2 c {q with pm:=nw 1,pr:=nw 2} xT lv (nw 0)++R):=XS.go [n 1,n 8,n 1,n 1,n 1,n 1,n 1,n 1,.uD [0,1,2,3,4,5,6,7,8,11,12] [0,1]] (λU f=>dW q<|dH q.nn<|λd=>dH q.nn<|a (m8 h)<|λb=>dW q<|λm2=>dW q<|dW q<|dW q<|dW q<|dW q<|f (Qi [d,b,m2]))
end
section
variable {s:S5} {R:LH}
noncomputable def qN(o:Nat)(x:Pl):Q:=⟨x 0,x 1,o,x 2,x 3,x 4,x 5,x 6,x 7,x 8⟩
noncomputable def xT(c:Cf)(x:Pl):List V:=bif c.rw then[]else[.r (x 11)]
def Df(c:Cf)(x:Pl):LH:=bif c.rw then[]else[(x 11,.l (Dh.map pv))]
theorem Zj(Y:Z)(c:Cf)(o le lt:Nat)(R:LH):CC (dK Y) 61 (.f 143) [.k .jh (.r o)] [("strip_text",.b c.st),("rewrite_prefixes",.b c.rw),("with_comments",.b c.cm),("exclude_tags",.r lt),("exclude_attrs",.r le)] ([(0,.t 116 fP),(o,.l []),(le,.l (c.fj.map .s)),(lt,.l (g8.map .s))]++R) (λx=>.r (x 0)) (λx=>tI2 c (qN o x) (xT c x) (x 9) (x 10)++(Df c x++([(le,.l (c.fj.map .s)),(lt,.l (g8.map .s))]++R))):=by
 refine CC.cls (by rfl) ZM rfl rfl λj d=>XQ.perm ?_ (cG);refine((ahP (Y:=Y) (c:=c) (R:=R) (j:=j) (d:=d) (o:=o) (le:=le) (lt:=lt)).perm (.refl _) (k:=λz=>tI c (qI j d o z) 11 (fH [] c.fj) [] (z 5)++([(le,.l (c.fj.map .s)),(lt,.l (g8.map .s))]++R)) λz=>?_).vh λz=>?_
 exact(List.Perm.append_left ((tI c (qI j d o z) 11 _ [] (z 5)).take 9) (cG (l₁:=[(le,dN.l _),(lt,.l _)])).symm)
 rw[SM];cases hc:c.rw with
 |true=>
  refine(ahN hc).vh λU=>XQ.of (ad8 ()) (λU=>rfl) λy=>⟨rfl,Qi [j,d,z 0,z 1,z 2,z 3,z 4,y 1,y 2,z 5,y 0],rfl,?_⟩;unfold xT Df;rw[hc];rfl
 |false=>
  refine(ahO Y c _ _ le lt (z 5) hc).vh λw=>?_;refine XQ.of (ad8 (lv:=z 5) (show 1<900 by decide)) (λU=>rfl) λy=>?_;refine⟨rfl,Qi [j,d,z 0,z 1,z 2,z 3,z 4,y 1,y 2,z 5,y 0,w 0],rfl,?_⟩;unfold xT Df;rw[hc];rfl
end
section
open To
variable {s:S5} {R:LH}
def To.ur(u:Str)(r:LH):To:=.call 31 [] (λU U=>.s u) (λU U=>[]) (λU U=>r)
structure Jt (nm uri tag:Str) (br:Bool):Prop where
 b:(Txt.slice nm none (some 1)=="{")=br
 sp:br=true->some (Txt.split (Txt.slice nm (some 1) none) "}")=some [uri,tag]
 nb:br=false->uri=""
 las:(Txt.split nm "}").getLast?=some tag
 ln:nm.length<1000
 ls:(Txt.slice nm (some 1) none).length<1000
 lt:tag.length<1000
noncomputable def ac1(m:N5):Bool:=((Txt.slice m.q none (some 1)=="{")==m.br)&&(bif m.br then decide (Txt.split (Txt.slice m.q (some 1) none) "}"=[m.uri,m.tag])else decide (m.uri=""))&&decide ((Txt.split m.q "}").getLast?=some m.tag)&&decide (m.q.length<100)&&decide ((Txt.slice m.q (some 1) none).length<1000)&&decide (m.tag.length<100)
def MK:iz.all ac1=true:=by decide+kernel
def Al{m:N5}(h:m∈iz):Jt m.q m.uri m.tag m.br:=by
 have:=List.all_eq_true.mp MK m h;unfold ac1 at this;simp at this;obtain⟨⟨⟨⟨⟨h1,a⟩,c⟩,e⟩,b⟩,d⟩:=this;refine⟨h1,λhb=>?_,λhb=>?_,c,(),b,()⟩
 lia
 lia
def l2{n:Nat}(h:n<1000):("}":Str).length≠0/\n+2<=lim:=⟨(),aK (Nat.add_le_add_right (cj h) 2) ()⟩
theorem PB{l:List Str}(h:l.getLast?=some t):atIdx (l.map V.s) (-1)=some (.s t):=by
 have a:l≠[]:=λq=>by rw[q]at h;exact gB h
 rw[<- List.dropLast_concat_getLast a,aH];rw[List.getLast?_eq_some_getLast a]at h;rw[bh h];exact gQ
def aby{nm:Str}(h:Jt nm u t true):CC (dK Y) 31 (.f 173) [.s nm] [] ([]++R) (λnw=>.s u) (λnw=>[]++R):=CC.goF Wx rfl rfl [.n 1,.strs [u,t],n 0,.n 0,.keep []] (λU f=>a (lL h.ln)<|a (h.b)<|a (lL h.ln)<|a (l2 h.ls)<|a (h.sp rfl)<|λ(c:Nat)=>dH c<|f (λU=>0))
def abx{nm:Str}(h:Jt nm u t false):CC (dK Y) 31 (.f 173) [.s nm] [] ([]++R) (λnw=>.s "") (λnw=>[]++R):=CC.goF Wx rfl rfl [.n 2,.keep []] (λU f=>a (lL h.ln)<|a (h.b)<|f (λU=>0))
def Pr(Y:Z)(R:LH){nm:Str}(h:Jt nm u t br):CC (dK Y) 31 (.f 173) [.s nm] [] R (λU=>.s u) (λU=>R):=by
 cases br with
 |true=>exact aby h
 |false=>rw[h.nb rfl];exact abx h
def c1n{x:Str}(a:x.length<1000):x.length+(":":Str).length<=lim:=aK () ()
def c2n{x:Str}(b:x.length<1000)(a:y.length<1000):(x++":").length+y.length<=lim:=by
 rw[fJ];exact aK (dg () (cj a)) ()
def c0n(a:y.length<1000):("":Str).length+y.length<=lim:=aK (dg (show("":Str).length<=0 from fM rfl) (cj a)) ()
theorem adg{nm pf:Str}(h:Jt nm u t br)(hp:some ((kvs.lookup u).getD (.s ""))=some (.s pf))(hl:pf.length<1000)(h0:(!(pf==""))=true):CC (dK Y) 41 (.f 180) [.s nm,.r p] [] ([(p,.d kvs)]++R) (λnw=>.s (pf++":"++t)) (λnw=>[(p,.d kvs)]++R):=CC.goF Nt rfl rfl [n 0,.ur u R,.val λU=>.s pf,.n 1,.n 0,n 1,.val λU=>.s t,.keep [0]] (λU f=>dH p<|a (Pr Y R h)<|λ(c:Pl)=>dH p<|a (hp)<|a (h0)<|a (c1n hl)<|a (l2 h.ln)<|λ(b:Nat)=>dH b<|a (PB h.las)<|a (c2n hl h.lt)<|f (λU=>0))
def adh{nm:Str}(h:Jt nm u t br)(hp:some ((kvs.lookup u).getD (.s ""))=some (.s "")):CC (dK Y) 41 (.f 180) [.s nm,.r p] [] ([(p,.d kvs)]++R) (λnw=>.s (""++t)) (λnw=>[(p,.d kvs)]++R):=CC.goF Nt rfl rfl [n 0,.ur u R,.val λU=>.s "",n 0,.n 0,n 1,.val λU=>.s t,.keep [0]] (λU f=>dH p<|a (Pr Y R h)<|λ(c:Pl)=>dH p<|a (hp)<|a (l2 h.ln)<|λ(b:Nat)=>dH b<|a (PB h.las)<|a (c0n h.lt)<|f (λU=>0))
theorem yM(Y:Z)(R:LH){nm pf:Str}(h:Jt nm u t br)(hp:(kvs.lookup u).getD (.s "")=.s pf)(hl:pf.length<1000):CC (dK Y) 41 (.f 180) [.s nm,.r p] [] ([(p,.d kvs)]++R) (λU=>.s (lF pf t)) (λU=>[(p,.d kvs)]++R):=by
 unfold lF;by_cases h0:pf.length=0
 ·rw[if_pos h0];rw[jQ h0]at hp;have:=adh (Y:=Y) (R:=R) (p:=p) h (congrArg some hp);rw[show("":Str)++t=t from dh t]at this;exact this
 ·rw[if_neg h0,dh];exact adg h (congrArg some hp) hl (by
   have:pf≠"":=λq=>h0 (by rw[q];rfl);rw[bB this];rfl)
end
section
open To
variable {s:S5} {R:LH}
abbrev B185(Y:Z):List Stmt:=fQ Y 185
noncomputable def tab0:List (Str×Str):=[("&","&amp;"),("<","&lt;"),("\r","&#xD;")]
noncomputable def rG(l:List (Str×Str)):List (Str×V):=l.map λq=>(q.1,.s q.2)
abbrev eW(Y:Z):Expr:=(px (sO (B185 Y)[2]?).1).1
abbrev scW(Y:Z):Sc:=(px (eW Y)).2.2.2
noncomputable def adK(tb:Nat)(x:Str):Loc:=[("table",.r tb),("sign",.s x)]
noncomputable def sgn(x:Str):List Str:=x.cps.toList.map λc=>⟨#[c]⟩
noncomputable def NT(tab:List (Str×V))(x:Str):V:=(tab.lookup x).getD (.s x)
def aeR{tab:List (Str×V)}(h:some ((tab.lookup x).getD (.s x))=some v):EE (dK Y) 40 (scW Y) (adK tb x) ((px (eW Y)).1) ([(tb,.d tab)]++R) (λnw=>v) (λnw=>[(tb,.d tab)]++R):=EE.go [n 0,.val λU=>v,.keep [0]] (λU f=>dH tb<|dH tb<|a (h)<|f (λU=>0))
def CC.ahg{n:Nat}{ps:List (Str×Src)}{v:Pl->V}(i:yW pe f k kn ps O body)(hk:args.length=k)(a:kw.map (·.1)=kn)(h:XQ pe n O (ps.map λp=>(p.1,p.2.get args (kw.map (·.2)))) body L λw l=>∃x:Pl,w=v x/\l=l' x):CC pe (n+1) (.f f) args kw L v l':=CC.fn λU P H d=>by
 obtain⟨fd,h1,b,j,g⟩:=i.go;obtain⟨w,l,fl,dI,H',⟨x,rfl,rfl⟩,c,e,t⟩:=h P H d;subst hk a;exact⟨x,H',iR P h1 b j g e c,t⟩
def Y4:(([("&",V.s "&amp;"),("<",V.s "&lt;"),("\r",V.s "&#xD;")]:List (Str×V)).map λx:Str×V=>x.1).Nodup:=by decide+kernel
def Y5(h:l.length<=100):3+(rG l).length<=1000:=by
 unfold rG;rw[aB];exact aK (cM h 3) ()
theorem aif(Y:Z)(R:LH)(x:Str)(p tb:Nat){tab:List (Str×V)}{w:Str->Str}(c:∀z∈sgn x,NT tab z=.s (w z))(a:x.length<=1000000):EC (dK Y) 41 (dZ Y 185) ([("text",.s x),("names",.r p),("table",.r tb)]:Loc) (eW Y) ([(tb,.d tab)]++R) (λz=>.r (z 0)) (λz=>[(tb,.d tab),(z 0,.l (((sgn x).map w).map .s))]++R):=by
 have e:(sgn x).flatMap (λp=>[V.s (w p)])=((sgn x).map w).map .s:=by rw[aR];exact List.map_eq_flatMap.symm
 have b:CT (dK Y) 40 (scW Y) (.el (px (eW Y)).1) [] (Px (eW Y)) [] ((sgn x).map .s) (around (scW Y) ([("text",.s x),("names",.r p),("table",.r tb)]:Loc)) ([(tb,.d tab)]++R) (λU=>((sgn x).map w).map .s) (λU=>[(tb,.d tab)]++R):=by
  rw[<- e];exact CT.flat λz hz=>⟨adK tb z,λU U=>rfl,.inl ⟨EY.nil,BK.el (aeR (R:=R) (congrArg some (c z hz)))⟩⟩
 have hl:((sgn x).map w).length<=lim:=by
  unfold sgn;rw[aB,aB];exact aK a ()
 have hi:∀H,items H (.s x)=some ((sgn x).map V.s,none):=λH=>by
  unfold sgn;rw[aR];rfl
 have key:EC (dK Y) 41 (dZ Y 185) _ (eW Y) _ _ _:=
  EC.lc rfl rfl (.val hi (EE.name rfl)) rfl b (by rw[aB];exact hl)
 exact key.perm (.refl _) λz=>by rw[aX];exact List.Perm.swap ..
def abq(c:ns.length<=100):PX (dK Y) 60 (dZ Y 185) (B185 Y) ((B185 Y).drop 2) ([("text",.s x),("names",.r p)]) ([(p,.d (rG ns))]++R) (λnw=>[("text",.s x),("names",.r p),("table",.r (nw 0))]) (λnw=>[(p,.d (rG ns)),(nw 0,.d (w5 (rG tab0) (rG ns)))]++R):=PX.go 2 [n 1,n 0,.keep [0,1]] (λU f=>a (Y4)<|λb=>dH b<|dH p<|dH b<|a (Y5 c)<|f (λU=>b))
theorem abp{tab:List (Str×V)}{w:Str->Str}(g:∀z∈sgn x,NT tab z=.s (w z))(b:x.length<=1000000)(h:JoinOk cJ ((sgn x).map w)=true):XS (dK Y) 60 (dZ Y 185) ([("text",.s x),("names",.r p),("table",.r tb)]) ((B185 Y).drop 2) ([(p,o),(tb,.d tab)]++R) (λnw=>.ret (.s (jn ((sgn x).map w)))) (λnw=>[("text",.s x),("names",.r p),("table",.r tb)]) (λnw=>[(p,o)]++R):=XS.go [.call 41 [1] (λU z=>.r (z 0)) (λU z=>[(tb,.d tab),(z 0,.l (((sgn x).map w).map .s))]) (λU U=>R),n 2,.strs ((sgn x).map w),.keep [0]] (λU f=>a (aif Y R x p tb g b)<|λ(c:Pl)=>a (e (c 0))<|a (gb ((sgn x).map w))<|a (h)<|f (λU=>0))
theorem afC(Y:Z)(R:LH)(x:Str)(p:Nat){w:Str->Str}(a:ns.length<=100)(c:∀z∈sgn x,NT (w5 (rG tab0) (rG ns)) z=.s (w z))(b:x.length<=1000000)(e:JoinOk cJ ((sgn x).map w)=true):CC (dK Y) 61 (.f 185) [.s x,.r p] [] ([(p,.d (rG ns))]++R) (λU=>.s (jn ((sgn x).map w))) (λU=>[(p,.d (rG ns))]++R):=CC.ahg ⟨_,DW Y.P Y.sa Y.is,Cr Y.P,by kernel_rfl,rfl⟩ rfl rfl ((abq a).vh λz=>XQ.of (abp c b e) (λU=>rfl) λy=>⟨y,rfl,rfl⟩)
def Vj(l:List Str):(cat l).cps.toList=l.flatMap (·.cps.toList):=by
 induction l with
 |nil=>rfl
 |cons x l ih=>
  show(x.cps++(cat l).cps).toList=_;rw[Array.toList_append,ih,cX]
theorem Bq{w:Str->Str}(h:∀k,(w ⟨#[k]⟩).cps.toList=f k)(c:y.cps.toList=x.cps.toList.flatMap f):jn ((sgn x).map w)=y:=by
 have:(jn ((sgn x).map w)).cps.toList=y.cps.toList:=by
  show(Txt.join cJ _).cps.toList=_;rw[nH,Vj,c];unfold sgn;rw[aR,List.flatMap_map];exact congrArg x.cps.toList.flatMap (funext h)
 cases y with|mk b=>cases hz:jn _ with|mk a=>rw[hz]at this;exact congrArg Str.mk (Array.toList_inj.mp this)
noncomputable def wO(tab:List (Str×Str))(x:Str):Str:=(tab.lookup x).getD x
def NQ{tab:List (Str×Str)}:NT (rG tab) x=.s (wO tab x):=by
 unfold NT wO rG
 induction tab with
 |nil=>rfl
 |cons p tab ih=>
  rw[bx,bx];cases x==p.1
  exact ih
  rfl
def one_beq{a b:Nat}:((⟨#[a]⟩:Str)==⟨#[b]⟩)=(a==b):=by
 rw[Bool.eq_iff_iff,beq_iff_eq,beq_iff_eq];exact⟨λh=>by cases h;rfl,λh=>h▸rfl⟩
def JC{ps:List (Nat×Str)}(k:Nat):(wO (ps.map λp=>((⟨#[p.1]⟩:Str),p.2)) ⟨#[k]⟩).cps.toList=qF (lst ps) k:=by
 unfold wO qF lst
 induction ps with
 |nil=>rfl
 |cons p ps ih=>
  rw[cC,cC,bx,bx,one_beq];cases k==p.1
  exact ih
  rfl
noncomputable def R0:List (Str×Str):=[(">","&gt;")]
noncomputable def nsA:List (Str×Str):=[("\"","&quot;"),("\n","&#xA;"),("\t","&#x9;")]
noncomputable def Yy:List (Nat×Str):=[(38,"&amp;"),(60,"&lt;"),(13,"&#xD;"),(62,"&gt;")]
noncomputable def Yz:List (Nat×Str):=[(38,"&amp;"),(60,"&lt;"),(13,"&#xD;"),(34,"&quot;"),(10,"&#xA;"),(9,"&#x9;")]
def abz:w5 (rG tab0) (rG R0)=rG (Yy.map λp=>((⟨#[p.1]⟩:Str),p.2)):=by rfl
theorem uw{α d:Type}[BEq α][LawfulBEq α]{l l2:List (α×d)}(a:(l.map (·.1)).Nodup)(hp:l2.Perm l)(k:α):l2.lookup k=l.lookup k:=by
 have key:∀{l l2:List (α×d)},(l.map (·.1)).Nodup->l2.Perm l->∀v,l2.lookup k=some v->l.lookup k=some v:=λ{l l2} a hp v h=>by
  have b:=hp.mem_iff.mp (Ml h);clear h hp
  induction l with
  |nil=>exact nomatch b
  |cons p l ih=>
   rw[cC,cB]at a;rw[bx];rcases aA b with rfl|b
   ·rw[bA]
   ·rw[show(k==p.1)=false from bB λe=>a.1 (e▸aJ (f:=Prod.fst) b)];exact ih a.2 b
 have c:(l2.map (·.1)).Nodup:=(hp.map _).nodup_iff.mpr a;cases h1:l2.lookup k with
 |some v=>exact(key a hp v h1).symm
 |none=>
  cases h2:l.lookup k with
  |none=>rfl
  |some v=>rw[key c hp.symm v h2]at h1;exact gB h1.symm
def Gq{ps a:List (Nat×List Nat)}(h:∀k,ps.lookup k=a.lookup k)(k:Nat):qF ps k=qF a k:=by
 unfold qF;rw[h]
def lk4(k:Nat):(lst Yy).lookup k=(lst psC).lookup k:=uw () () k
def lk6(k:Nat):(lst Yz).lookup k=(lst psA).lookup k:=uw () () k
def ad0(x:Str):jn ((sgn x).map (wO (Yy.map λp=>((⟨#[p.1]⟩:Str),p.2))))=eV x:=Bq (λk=>by rw[JC,Gq lk4]) (by unfold eV;rw[uZ,qG rfl])
def ad1(x:Str):jn ((sgn x).map (wO (Yz.map λp=>((⟨#[p.1]⟩:Str),p.2))))=mK x:=Bq (λk=>by rw[JC,Gq lk6]) (by unfold mK;rw[uZ,qG rfl])
def abA:w5 (rG tab0) (rG nsA)=rG (Yz.map λp=>((⟨#[p.1]⟩:Str),p.2)):=by rfl
def Br(Y:Z)(R:LH)(x:Str)(p:Nat)(a:x.length<=100000):CC (dK Y) 61 (.f 185) [.s x,.r p] [] ([(p,.d (rG R0))]++R) (λU=>.s (eV x)) (λU=>[(p,.d (rG R0))]++R):=by
 have h:=afC Y R x p (ns:=R0) () (λz U=>by rw[abz];exact NQ) () (qO (by
  rw[<- nH,show Txt.join cJ _=eV x from ad0 x];exact aK (lM a) ()))
 rw[ad0]at h;exact h
end
inductive E5 where
 |told (p u:Str)
 |start (t:N5) (m:Nat) (at':List (N5×Str))
 |fin (t:N5)
 |com (x:Str)
 |pi (x:Option Str)
 |dat (x:Str)
variable {evs K0:List E5}
noncomputable def oV(x:Option Str):V:=x.elim .n .s
def gP:E5->V
 |.told p u=>.t [.s "told",.s p,.s u]
 |.start t m _=>.t [.s "start",.s t.q,.r m]
 |.fin t=>.t [.s "end",.s t.q,.n]
 |.com x=>.t [.s "comment",.s x,.n]
 |.pi x=>.t [.s "pi",.s "t",oV x]
 |.dat x=>.t [.s "data",.s x,.n]
def dcE:E5->LH
 |.start _ m at'=>[(m,fG (dO at'))]
 |_=>[]
def iK(l:List E5):LH:=l.flatMap dcE
noncomputable def stE(x:List N5×Bool):E5->List N5×Bool
 |.start t _ _=>(t::x.1,true)
 |.fin _=>(x.1.tail,x.2)
 |_=>x
def Qm(x:List N5×Bool):E5->Prop
 |.told p u=>p="q"/\u="u"/\x.1≠[]
 |.start t _ at'=>t∈iz/\fO at'/\(∀p∈at',p.2.length<20)/\(x.1=[]->x.2=false/\gone.contains t.q=false)
 |.fin t=>x.1.head?=some t
 |.com y=>y.length<=3
 |.pi y=>∀z,y=some z->z.length<=3
 |.dat y=>y.length<=3
def WF(x:List N5×Bool)(l:List E5):Prop:=List.rec (motive:=λU=>List N5×Bool->Prop) (λU=>True) (λe U ih x=>Qm x e/\ih (stE x e)) l x
def WF.app{l1 l2:List E5}:∀{x},WF x (l1++l2)↔WF x l1/\WF (l1.foldl stE x) l2:=by
 induction l1 with
 |nil=>exact λ{x}=>⟨λh=>⟨trivial,h⟩,λh=>h.2⟩
 |cons e l ih=>exact λ{x}=>⟨λh=>⟨⟨h.1,(ih.mp h.2).1⟩,(ih.mp h.2).2⟩,λh=>⟨h.1.1,ih.mpr ⟨h.1.2,h.2⟩⟩⟩
def WF.one{e:E5}(h:Qm x e):WF x [e]:=⟨h,trivial⟩
def WF.snoc{e:E5}(h:WF x l)(h1:Qm (l.foldl stE x) e):WF x (l++[e]):=WF.app.mpr ⟨h,.one h1⟩
def n6{e:E5}:(l++[e]).foldl stE x=stE (l.foldl stE x) e:=by rw[cU];rfl
section
open To
variable {s:S5} {R:LH}
abbrev B190(Y:Z):List Stmt:=fQ Y 190
abbrev nj(Y:Z):Option Stmt:=(B190 Y)[2]?
noncomputable def oZ(O tg ky sg ev pa:Nat)(b:Bool):Loc:=[("script",.r O),("tags",.r tg),("keys",.r ky),("signs",.r sg),("events",.r ev),("path",.r pa),("begun",.b b)]
noncomputable def Wi(O tg ky sg ev pa:Nat)(b:Bool)(x:Int):Loc:=[("script",.r O),("tags",.r tg),("keys",.r ky),("signs",.r sg),("events",.r ev),("path",.r pa),("begun",.b b),("x",.i x)]
noncomputable def iW(O tg ky sg ev pa:Nat)(b:Bool)(x mv r:Int)(pc:Str):Loc:=[("script",.r O),("tags",.r tg),("keys",.r ky),("signs",.r sg),("events",.r ev),("path",.r pa),("begun",.b b),("x",.i x),("move",.i mv),("rest",.i r),("piece",.s pc)]
noncomputable def iV(O tg ky sg ev pa:Nat)(b:Bool)(x mv r:Int)(pc t:Str)(m:Nat):Loc:=[("script",.r O),("tags",.r tg),("keys",.r ky),("signs",.r sg),("events",.r ev),("path",.r pa),("begun",.b b),("x",.i x),("move",.i mv),("rest",.i r),("piece",.s pc),("tag",.s t),("attrs",.r m)]
noncomputable def Mj(O tg ky sg ev pa:Nat)(b:Bool)(x mv r:Int)(pc t:Str)(m:Nat)(k:Int):Loc:=[("script",.r O),("tags",.r tg),("keys",.r ky),("signs",.r sg),("events",.r ev),("path",.r pa),("begun",.b b),("x",.i x),("move",.i mv),("rest",.i r),("piece",.s pc),("tag",.s t),("attrs",.r m),("k",.i k)]
noncomputable def Gp(O tg ky sg ev pa:Nat)(b:Bool)(x mv r:Int)(pc t:Str)(m:Nat)(k sd:Int)(kq:Str):Loc:=[("script",.r O),("tags",.r tg),("keys",.r ky),("signs",.r sg),("events",.r ev),("path",.r pa),("begun",.b b),("x",.i x),("move",.i mv),("rest",.i r),("piece",.s pc),("tag",.s t),("attrs",.r m),("k",.i k),("seed",.i sd),("key",.s kq)]
abbrev acp(Y:Z):List Stmt:=gJ ((gJ (nj Y))[2]?)
abbrev fA(Y:Z):Option Stmt:=(acp Y)[1]?
def gj:List V:=[.s "k",.s "{u}k",.s "z",.s "{v}z",.s mD]
noncomputable def lB:List V:=[.s "&",.s "<",.s ">",.s "\"",.s "\r",.s "\n",.s " ",.s "",.s "a"]
def Y0(l:List V)(x:V):(!(l++[x]).isEmpty)=true:=by cases l <;> rfl
def afA(x:Int):0<=x/6/10 % 1114112/\x/6/10 % 1114112<=1114111:=⟨Int.emod_nonneg _ (),Int.le_of_lt_add_one (Int.emod_lt_of_pos _ ())⟩
def J0{x:Str}(b:x.length<1000)(a:y.length<1000):x.length+y.length<=lim:=aK (dg (cj b) (cj a)) ()
def aL:("a":Str).length<1000:=()
def ac9:([]:List V).length<lim:=()
def ten:10<=lim:=fM rfl
def ah7{O tg:Nat}(hp:atIdx (lB++[V.s ⟨#[(x/6/10 % 1114112).toNat]⟩]) (x/6 % 10)=some (.s pc)):PX (dK Y) 60 (dZ Y 190) (gJ (nj Y)) ((gJ (nj Y)).drop 2) (Wi O tg ky sg ev pa b x) ([(sg,.l lB)]++R) (λnw=>iW O tg ky sg ev pa b x (x % 6) (x/6) pc) (λnw=>[(sg,.l lB)]++R):=PX.go 2 [n 0,n 1,n 2,.val λU=>.s pc,.keep [0]] (λU f=>a (afA x)<|λd=>dH sg<|dH d<|a (ten)<|λc=>dH c<|a (hp)<|f (λU=>0))
theorem aeI{O tg:Nat}{es:List V}(h0:(mv==0)=false)(h1:(mv==1)=false)(c:(mv==4)=false)(d:(mv==5)=false)(hl:es.length<900):XS (dK Y) 60 (dZ Y 190) (iW O tg ky sg ev pa b x mv r pc) ((gJ (nj Y)).drop 2) ([(ev,.l es),(pa,.l (rA))]++R) (λnw=>.next) (λnw=>iW O tg ky sg ev pa b x mv r pc) (λnw=>[(ev,.l (es++[.t [.s "data",.s pc,.n]])),(pa,.l (rA))]++R):=XS.go [.n 2,.n 2,.n 2,.n 2,n 0,.keep [0,1]] (λU f=>a (h0)<|a (h1)<|a (c)<|a (d)<|dH ev<|dH ev<|a (m8 hl)<|f (λU=>0))
theorem aeH{O tg:Nat}{es:List V}(hl:es.length<900):XS (dK Y) 60 (dZ Y 190) (iW O tg ky sg ev pa true x 0 r pc) ((gJ (nj Y)).drop 2) ([(ev,.l es),(pa,.l ([]))]++R) (λnw=>.next) (λnw=>iW O tg ky sg ev pa true x 0 r pc) (λnw=>[(ev,.l (es++[.t [.s "data",.s pc,.n]])),(pa,.l ([]))]++R):=XS.go [n 0,n 1,n 2,n 0,n 0,n 0,n 0,n 0,n 0,.keep [0,1]] (λU f=>λb=>dH pa<|dH b<|dH ev<|dH ev<|a (m8 hl)<|f (λU=>0))
def aeG{O tg:Nat}{es:List V}(hl:es.length<900):XS (dK Y) 60 (dZ Y 190) (iW O tg ky sg ev pa b x 1 r pc) ((gJ (nj Y)).drop 2) ([(ev,.l es),(pa,.l ([]))]++R) (λnw=>.next) (λnw=>iW O tg ky sg ev pa b x 1 r pc) (λnw=>[(ev,.l (es++[.t [.s "data",.s pc,.n]])),(pa,.l ([]))]++R):=XS.go [n 0,n 0,n 1,n 2,n 0,n 0,n 0,n 0,.keep [0,1]] (λU f=>λc=>dH pa<|dH c<|dH ev<|dH ev<|a (m8 hl)<|f (λU=>0))
def ah6{O tg:Nat}{es:List V}(hl:es.length<900):XS (dK Y) 60 (dZ Y 190) (iW O tg ky sg ev pa b x 4 r pc) ((gJ (nj Y)).drop 2) ([(ev,.l es),(pa,.l (rA))]++R) (λnw=>.next) (λnw=>iW O tg ky sg ev pa b x 4 r pc) (λnw=>[(ev,.l (es++[.t [.s "comment",.s pc,.n]])),(pa,.l (rA))]++R):=XS.go [n 0,n 0,n 0,n 0,.keep [0,1]] (λU f=>dH ev<|dH ev<|a (m8 hl)<|f (λU=>0))
theorem ah4{O tg:Nat}{es:List V}(d:atIdx [.n,.s "",.s pc] (r/10 % 3)=some v)(hl:es.length<900):XS (dK Y) 60 (dZ Y 190) (iW O tg ky sg ev pa b x 5 r pc) ((gJ (nj Y)).drop 2) ([(ev,.l es),(pa,.l (rA))]++R) (λnw=>.next) (λnw=>iW O tg ky sg ev pa b x 5 r pc) (λnw=>[(ev,.l (es++[.t [.s "pi",.s "t",v]])),(pa,.l (rA))]++R):=XS.go [n 0,n 0,n 0,n 0,n 0,n 2,.val λU=>v,.keep [0,1]] (λU f=>dH ev<|λc=>dH c<|a (d)<|dH ev<|a (m8 hl)<|f (λU=>0))
theorem ah5{O tg:Nat}{es:List V}(hp:rA.length<900)(hl:es.length<900):XS (dK Y) 60 (dZ Y 190) (iW O tg ky sg ev pa b x 1 r pc) ((gJ (nj Y)).drop 2) ([(ev,.l es),(pa,.l (rA++[.s t]))]++R) (λnw=>.next) (λnw=>iW O tg ky sg ev pa b x 1 r pc) (λnw=>[(ev,.l (es++[.t [.s "end",.s t,.n]])),(pa,.l (rA))]++R):=XS.go [n 0,n 0,n 1,n 2,.n 1,n 0,n 1,.zU (λU=>rA) (λU=>.s t),.keep [0,1]] (λU f=>λc=>dH pa<|dH c<|a (Y0 rA (.s t))<|dH ev<|dH pa<|dH pa<|a (rC rA (.s t) hp)<|dH ev<|a (m8 hl)<|f (λU=>0))
theorem aip{O tg:Nat}{k:Int}{v:Str}(hk:atIdx gj ((r/24+7*k) % 5)=some (.s kq))(h:(kq==mD)=true)(e:atIdx [.s "preserve",.s "default",.s ""] ((r/24+7*k)/5 % 3)=some (.s v))(hl:kvs.length<900):XS (dK Y) 50 (dZ Y 190) (Mj O tg ky sg ev pa b x mv r pc t m k) (gJ (fA Y)) ([(sg,.l lB),(ky,.l gj),(m,.d kvs)]++R) (λnw=>.next) (λnw=>Gp O tg ky sg ev pa b x mv r pc t m k (r/24+7*k) kq) (λnw=>[(sg,.l lB),(ky,.l gj),(m,.d (eO kvs kq (.s v)))]++R):=XS.go [n 1,.val λU=>.s kq,n 1,.val λU=>.s mD,.n 1,n 3,.val λU=>.s v,n 2,.keep [0,1,2]] (λU f=>dH ky<|a (hk)<|dH ky<|a (f1e mD)<|a (h)<|λc=>dH c<|a (e)<|dH m<|a (m8 hl)<|f (λU=>0))
theorem aio{O tg:Nat}{k:Int}{v:Str}(hk:atIdx gj ((r/24+7*k) % 5)=some (.s kq))(h:(kq==mD)=false)(c:atIdx lB ((r/24+7*k)/5 % 9)=some (.s v))(hl:kvs.length<900):XS (dK Y) 50 (dZ Y 190) (Mj O tg ky sg ev pa b x mv r pc t m k) (gJ (fA Y)) ([(sg,.l lB),(ky,.l gj),(m,.d kvs)]++R) (λnw=>.next) (λnw=>Gp O tg ky sg ev pa b x mv r pc t m k (r/24+7*k) kq) (λnw=>[(sg,.l lB),(ky,.l gj),(m,.d (eO kvs kq (.s v)))]++R):=XS.go [n 1,.val λU=>.s kq,n 1,.val λU=>.s mD,.n 2,n 0,.val λU=>.s v,n 2,.keep [0,1,2]] (λU f=>dH ky<|a (hk)<|dH ky<|a (f1e mD)<|a (h)<|dH sg<|a (c)<|dH m<|a (m8 hl)<|f (λU=>0))
theorem aeE{O tg:Nat}{es:List V}(o:atIdx yZ (r % 4)=some (.s t1))(e:t1.length<1000)(g:t2.length<1000)(hl:es.length<900)(i:atIdx [.s "a",.s "x"] (r/4 % 2)=some (.s t2))(hp:(!rA.isEmpty)=true)(c:rA.length<900)(ho:((r/24 % 4)==1)=true)(hf:∀m,XX (dK Y) 51 (dZ Y 190) (iV O tg ky sg ev pa b x 0 r pc (t1++t2) m) (Internal.fs (fA Y)) ([(sg,.l lB),(ky,.l gj),(m,.d [])]++R) (λU=>.next) (λU=>iV O tg ky sg ev pa b x 0 r pc (t1++t2) m) (λU=>[(sg,.l lB),(ky,.l gj),(m,.d kvs)]++R)):XS (dK Y) 60 (dZ Y 190) (iW O tg ky sg ev pa b x 0 r pc) ((gJ (nj Y)).drop 2) ([(sg,.l lB),(tg,.l yZ),(ky,.l gj),(ev,.l es),(pa,.l (rA))]++R) (λnw=>.next) (λnw=>iV O tg ky sg ev pa true x 0 r pc (t1++t2) (nw 0)) (λnw=>[(sg,.l lB),(tg,.l yZ),(ky,.l gj),(ev,.l (es++[.t [.s "told",.s "q",.s "u"]]++[.t [.s "start",.s (t1++t2),.r (nw 0)]])),(pa,.l (rA++[.s (t1++t2)])),(nw 0,.d kvs)]++R):=XS.go [n 0,n 4,n 5,.n 1,n 1,.val λU=>.s t1,n 4,n 6,.n 1,n 7,.val λU=>.s t2,.stm 51 [0,2,8] (λU U=>.next) (λz U=>iV O tg ky sg ev pa b x 0 r pc (t1++t2) (z 8)) (λz U=>[(sg,.l lB),(ky,.l gj),(z 8,.d kvs)]) (λU U=>R),n 4,n 9,.n 1,.n 1,n 3,n 3,n 4,.keep [0,1,2,3,4,8]] (λU f=>λ(j:Nat)=>dH pa<|dH j<|a (hp)<|dH tg<|a (o)<|λ(k:Nat)=>dH pa<|dH k<|a (hp)<|λ(m2:Nat)=>dH m2<|a (i)<|a (J0 e g)<|λ(h:Nat)=>a (hf h)<|λ(q:Pl)=>λ(p:Nat)=>dH pa<|dH p<|a (hp)<|a (ho)<|dH ev<|dH ev<|a (m8 hl)<|dH ev<|dH ev<|a ((dsL (.t [.s "told",.s "q",.s "u"]) hl))<|dH pa<|dH pa<|a (m8 c)<|f (λU=>h))
theorem aeD{O tg:Nat}{es:List V}(o:atIdx yZ (r % 4)=some (.s t1))(e:t1.length<1000)(g:t2.length<1000)(hl:es.length<900)(i:atIdx [.s "a",.s "x"] (r/4 % 2)=some (.s t2))(hp:(!rA.isEmpty)=true)(c:rA.length<900)(ho:((r/24 % 4)==1)=false)(hf:∀m,XX (dK Y) 51 (dZ Y 190) (iV O tg ky sg ev pa b x 0 r pc (t1++t2) m) (Internal.fs (fA Y)) ([(sg,.l lB),(ky,.l gj),(m,.d [])]++R) (λU=>.next) (λU=>iV O tg ky sg ev pa b x 0 r pc (t1++t2) m) (λU=>[(sg,.l lB),(ky,.l gj),(m,.d kvs)]++R)):XS (dK Y) 60 (dZ Y 190) (iW O tg ky sg ev pa b x 0 r pc) ((gJ (nj Y)).drop 2) ([(sg,.l lB),(tg,.l yZ),(ky,.l gj),(ev,.l es),(pa,.l (rA))]++R) (λnw=>.next) (λnw=>iV O tg ky sg ev pa true x 0 r pc (t1++t2) (nw 0)) (λnw=>[(sg,.l lB),(tg,.l yZ),(ky,.l gj),(ev,.l (es++[.t [.s "start",.s (t1++t2),.r (nw 0)]])),(pa,.l (rA++[.s (t1++t2)])),(nw 0,.d kvs)]++R):=XS.go [n 0,n 4,n 5,.n 1,n 1,.val λU=>.s t1,n 4,n 6,.n 1,n 7,.val λU=>.s t2,.stm 51 [0,2,8] (λU U=>.next) (λz U=>iV O tg ky sg ev pa b x 0 r pc (t1++t2) (z 8)) (λz U=>[(sg,.l lB),(ky,.l gj),(z 8,.d kvs)]) (λU U=>R),n 4,n 9,.n 1,.n 2,n 3,n 4,.keep [0,1,2,3,4,8]] (λU f=>λ(j:Nat)=>dH pa<|dH j<|a (hp)<|dH tg<|a (o)<|λ(k:Nat)=>dH pa<|dH k<|a (hp)<|λ(m2:Nat)=>dH m2<|a (i)<|a (J0 e g)<|λ(h:Nat)=>a (hf h)<|λ(q:Pl)=>λ(p:Nat)=>dH pa<|dH p<|a (hp)<|a (ho)<|dH ev<|dH ev<|a (m8 hl)<|dH pa<|dH pa<|a (m8 c)<|f (λU=>h))
theorem aeF{O tg:Nat}{es:List V}(h:atIdx yZ (r % 4)=some (.s t1))(b:t1.length<1000)(hl:es.length<900) (hf:∀m,XX (dK Y) 51 (dZ Y 190) (iV O tg ky sg ev pa false x 0 r pc (t1++"a") m) (Internal.fs (fA Y)) ([(sg,.l lB),(ky,.l gj),(m,.d [])]++R) (λU=>.next) (λU=>iV O tg ky sg ev pa false x 0 r pc (t1++"a") m) (λU=>[(sg,.l lB),(ky,.l gj),(m,.d kvs)]++R)):XS (dK Y) 60 (dZ Y 190) (iW O tg ky sg ev pa false x 0 r pc) ((gJ (nj Y)).drop 2) ([(sg,.l lB),(tg,.l yZ),(ky,.l gj),(ev,.l es),(pa,.l ([]))]++R) (λnw=>.next) (λnw=>iV O tg ky sg ev pa true x 0 r pc (t1++"a") (nw 0)) (λnw=>[(sg,.l lB),(tg,.l yZ),(ky,.l gj),(ev,.l (es++[.t [.s "start",.s (t1++"a"),.r (nw 0)]])),(pa,.l ([]++[.s (t1++"a")])),(nw 0,.d kvs)]++R):=XS.go [n 0,n 4,n 5,n 0,n 0,n 1,.val λU=>.s t1,n 4,n 6,n 0,.stm 51 [0,2,7] (λU U=>.next) (λz U=>iV O tg ky sg ev pa false x 0 r pc (t1++"a") (z 7)) (λz U=>[(sg,.l lB),(ky,.l gj),(z 7,.d kvs)]) (λU U=>R),n 4,n 8,n 0,n 3,n 4,.keep [0,1,2,3,4,7]] (λU f=>λ(g:Nat)=>dH pa<|dH g<|dH tg<|a (h)<|λ(e:Nat)=>dH pa<|dH e<|a (J0 b aL)<|λ(m2:Nat)=>a (hf m2)<|λ(i:Pl)=>λ(c:Nat)=>dH pa<|dH c<|dH ev<|dH ev<|a (m8 hl)<|dH pa<|dH pa<|a (ac9)<|f (λU=>m2))
end
section
variable {pe:Pe} {n:Nat} {L1 k:LH} {Q Q':Fl->Loc->LH->Prop} {J7 J7':Loc->LH->Prop} {A:V->LH->Prop} {x:V}
inductive XPr (cx:Cx) (n:Nat) (O:Sc) (J:Loc) (body:List Stmt) (H:Hp) (L:LH) (Q:Fl->Loc->LH->Prop):Prop
 |mk (fl:Fl) (dI:Loc) (l':LH) (H':Hp) (q:Q fl dI l') (e:vY cx n O body J H fl dI H') (t:Tp H L H' l'):XPr cx n O J body H L Q
def XP(pe:Pe)(n:Nat)(O:Sc)(J:Loc)(body:List Stmt)(L:LH)(Q:Fl->Loc->LH->Prop):Prop:=∀⦃cx⦄,eY pe cx->∀H,Has H L->XPr cx n O J body H L Q
def XP.of{dI:Pl->Loc}(h:XS pe n O J body L fl dI l')(b:∀x,Q (fl x) (dI x) (l' x)):XP pe n O J body L Q:=λU P H a=>by
 obtain⟨x,H',e,t⟩:=h P H a;exact⟨_,_,_,H',b x,e,t⟩
def XP.imp(h:XP pe n O J body L Q)(b:∀fl J l,Q fl J l->Q' fl J l):XP pe n O J body L Q':=λU P H a=>by
 obtain⟨fl,dI,l',H',q,e,t⟩:=h P H a;exact⟨fl,dI,l',H',b _ _ _ q,e,t⟩
def XP.perm(h:XP pe n O J body L Q)(hl:L1.Perm L):XP pe n O J body L1 Q:=λU P H a=>by
 obtain⟨fl,dI,l',H',q,e,t⟩:=h P H (a.to hl.symm);exact⟨fl,dI,l',H',q,e,t.of hl⟩
def XP.to(h:XP pe n O J body L Q)(c:∀fl J l,Q fl J l->∃l2,l2.Perm l/\Q' fl J l2):XP pe n O J body L Q':=λU P H a=>by
 obtain⟨fl,dI,l',H',q,e,t⟩:=h P H a;obtain⟨l2,hp,b⟩:=c _ _ _ q;exact⟨fl,dI,l2,H',b,e,t.to hp⟩
def PX.QK{eE:Pl->Loc}{l1:Pl->LH}(h:PX pe n O b1 b2 J L eE l1)(d:∀x,XP pe n O (eE x) b2 (l1 x) Q):XP pe n O J b1 L Q:=λU P H a=>by
 obtain⟨x,H1,t1,c⟩:=h P H a;obtain⟨fl,dI,l',H',q,b,t2⟩:=d x P H1 t1.has;exact⟨fl,dI,l',H',q,c _ _ _ b,t1.trans t2⟩
def XQ.forget(hl:∀y v,Iu.lookup y=some v->J.lookup y=some v)(h:XQ pe n O Iu body L A):XQ pe n O J body L A:=λU P H a=>by
 obtain⟨v,l',fl,dI,H',q,b,e,t⟩:=h P H a;exact⟨v,l',fl,dI,H',q,b,(λU U U U U U C b=>e (C.to C.inv (C.vars.congr hl)) b),t⟩
inductive FQr (cx:Cx) (n:Nat) (O:Sc) (target:Expr) (body:List Stmt) (xs:List V) (J:Loc) (H H0:Hp) (src:Option Nat) (L:LH) (J7:Loc->LH->Prop):Prop
 |mk (dI:Loc) (l':LH) (H':Hp) (q:J7 dI l') (e:yV cx n O target body src H0 xs J H .next dI H') (t:Tp H L H' l'):FQr cx n O target body xs J H H0 src L J7
def FQ(pe:Pe)(n:Nat)(O:Sc)(target:Expr)(body:List Stmt)(xs:List V)(J:Loc)(L:LH)(J7:Loc->LH->Prop):Prop:=∀⦃cx⦄,eY pe cx->∀H H0 src,Has H L->Ju H H0 src L->FQr cx n O target body xs J H H0 src L J7
def FQ.nil(h:J7 J L):FQ pe n O target body [] J L J7:=λU U H U U a U=>⟨J,L,H,h,WM,.refl a⟩
def FQ.cons(hb:∀H,Has H L->iB O H target x J=some eE)(h1:XP pe n O eE body L λfl mH L2=>uL fl=true/\FQ pe n O target body xs mH L2 J7):FQ pe n O target body (x::xs) J L J7:=λU P H H0 src a b=>by
 obtain⟨fl,mH,L2,H1,⟨e,d⟩,c,t1⟩:=h1 P H a;obtain⟨b1,st⟩:=b.step t1;obtain⟨dI,l',H2,q,f,t2⟩:=d P H1 H0 src t1.has b1;exact⟨dI,l',H2,q,Ou (hb H a) c e st f,t1.trans t2⟩
def FQ.forget(hl:∀y v,Iu.lookup y=some v->J.lookup y=some v)(h:FQ pe n O target body xs Iu L J7):FQ pe n O target body xs J L J7:=λU P H H0 src a b=>by
 obtain⟨dI,l',H2,q,c,t2⟩:=h P H H0 src a b;exact⟨dI,l',H2,q,Bb hl c,t2⟩
def FQ.perm(h:FQ pe n O target body xs J L J7)(hl:L1.Perm L):FQ pe n O target body xs J L1 J7:=λU P H H0 src a b=>by
 obtain⟨dI,l',H2,q,c,t2⟩:=h P H H0 src (a.to hl.symm) λi hi=>by
  obtain⟨h1,d,e⟩:=b i hi;exact⟨h1,λq=>d ((hl.map _).mem_iff.mpr q),e⟩
 exact⟨dI,l',H2,q,c,t2.of hl⟩
inductive PQr (cx:Cx) (n:Nat) (O:Sc) (b1 b2:List Stmt) (J:Loc) (H:Hp) (L:LH) (J7:Loc->LH->Prop):Prop
 |mk (eE:Loc) (l1:LH) (H1:Hp) (q:J7 eE l1) (t:Tp H L H1 l1) (go:∀fl dI H',vY cx n O b2 eE H1 fl dI H'->vY cx n O b1 J H fl dI H'):PQr cx n O b1 b2 J H L J7
def PQ(pe:Pe)(n:Nat)(O:Sc)(b1 b2:List Stmt)(J:Loc)(L:LH)(J7:Loc->LH->Prop):Prop:=∀⦃cx⦄,eY pe cx->∀H,Has H L->PQr cx n O b1 b2 J H L J7
def PQ.perm(h:PQ pe n O b1 b2 J L J7)(hl:L1.Perm L):PQ pe n O b1 b2 J L1 J7:=λU P H a=>by
 obtain⟨eE,l1,H1,q,t,go⟩:=h P H (a.to hl.symm);exact⟨eE,l1,H1,q,t.of hl,go⟩
def PQ.vh(h:PQ pe n O b1 b2 J L J7)(a:∀eE l1,J7 eE l1->XQ pe n O eE b2 l1 A):XQ pe n O J b1 L A:=λU P H e=>by
 obtain⟨eE,l1,H1,q,t,go⟩:=h P H e;obtain⟨v,l',fl,dI,H',d,b,c,t2⟩:=a _ _ q P H1 t.has;exact⟨v,l',fl,dI,H',d,b,go _ _ _ c,t.trans t2⟩
theorem PQ.Z8{b:List Stmt}(f:gA iter=false)(h1:EE pe n O J iter (L++[(p,.l xs)]) (λU=>.r p) (λU=>L++[(p,.l xs)]))(c:FQ pe n O target body xs J L J7):PQ pe (n+1) O (.For target iter body [] pos::b) b J (L++[(p,.l xs)]) λeE l1=>∃l0,l1=l0++[(p,.l xs)]/\J7 eE l0:=λU P H g=>by
 obtain⟨y,H1,a,t1⟩:=h1 P H g;obtain⟨hf,b1⟩:=Er t1.has;obtain⟨dI,l',H2,q,d,t2⟩:=c P H1 H1 (some p) (t1.has.sub (cY ..)) b1;exact⟨dI,_,H2,⟨l',rfl,q⟩,t1.trans (t2.frame t1.has),λU U U e=>d7 (Jy f a (jz hf) d) e⟩
end
section
open To
variable {s:S5} {R:LH}
def aaT{l:List Str}{k:Int}(h0:0<=k)(hk:k<l.length)(a:l.length<1000):atIdx (l.map V.s) k=some (.s (l.getD k.toNat cJ)):=by
 unfold atIdx;rw[if_neg λq=>q ⟨Int.lt_of_lt_of_le () h0,Int.lt_trans hk (Int.ofNat_lt.mpr ())⟩,if_pos h0,bW];have:=(Int.toNat_lt h0).mpr hk;rw[bw,bk this];rfl
def nA(x:Int){m:Int}(h:0<m):x % m<m:=Int.emod_lt_of_pos _ h
def sW(x:Int){m:Int}(h:0<m):0<=x % m:=Int.emod_nonneg _ (Int.ne_of_gt h)
def q7{l:List Str}{m:Int}(x:Int)(b:m=l.length)(h0:0<m)(a:l.length<1000):atIdx (l.map V.s) (x % m)=some (.s (l.getD (x % m).toNat cJ)):=aaT (sW x h0) (b▸nA x h0) a
def getD_mem{l:List Str}{d:Str}(h:k<l.length):l.getD k d∈l:=by
 rw[bw,bk h];exact List.getElem_mem h
def nR{l:List Str}{m:Int}(x:Int)(a:m=l.length)(h0:0<m):l.getD (x % m).toNat cJ∈l:=getD_mem ((Int.toNat_lt (sW x h0)).mpr (a▸nA x h0))
noncomputable def V5:List Str:=["&","<",">","\"","\r","\n"," ","","a"]
def kyS:List Str:=["k","{u}k","z","{v}z",mD]
noncomputable def spS:List Str:=["preserve","default",""]
noncomputable def tE(ba:Bool):List Str:=[bif ba then"" else"{e}","{u}","{v}","{e}"]
def fL(x:Str):N5:=(iz.find? (·.q==x)).getD ⟨cJ,cJ,cJ,false⟩
def okT(ba:Bool):Bool:=(tE ba).all λt=>(["a","x"]:List Str).all λy=>((fL (t++y)).q==t++y)&&(iz.any λm=>m.q==t++y)&&(!(y=="a")||!gone.contains (t++y))
def RW(ba:Bool):okT ba=true:=by cases ba <;> decide+kernel
def GZ(h:(fL x).q=x)(a:(iz.any λm=>m.q==x)=true):fL x∈iz:=by
 unfold fL;cases hf:iz.find? _ with
 |none=>
  rw[List.find?_eq_none]at hf;obtain⟨m,b,e⟩:=List.any_eq_true.mp a;exact absurd e (hf m b)
 |some m=>exact List.mem_of_find?_eq_some hf
def JZ(c:t∈tE ba)(b:y∈(["a","x"]:List Str)):(fL (t++y)).q=t++y/\fL (t++y)∈iz/\(y="a"->gone.contains (t++y)=false):=by
 obtain⟨h1,a⟩:=aZ (List.all_eq_true.mp (List.all_eq_true.mp (RW ba) t c) y b);obtain⟨g,f⟩:=aZ h1;have e:=beq_iff_eq.mp g;refine⟨e,GZ e f,λd=>?_⟩;cases hg:gone.contains _ with
 |false=>rfl
 |true=>lia
def Ds:∀k∈kyS,(fL k).q=k/\fL k∈iz:=by
 have h:kyS.all (λk=>((fL k).q==k)&&iz.any λm=>m.q==k)=true:=by rfl
 intro k hk;obtain⟨h1,a⟩:=aZ (List.all_eq_true.mp h k hk);have e:=beq_iff_eq.mp h1;exact⟨e,GZ e a⟩
noncomputable def mY:List (N5×Str)->N5->Str->List (N5×Str):=λl m v=>List.rec [(m,v)] (λp r ih=>if p.1.q=m.q then(m,v)::r else p::ih) l
def zG(l:List (N5×Str))(m:N5)(v:Str):eO ((dO l).map λq=>(q.1,V.s q.2)) m.q (.s v)=(dO (mY l m v)).map λq=>(q.1,V.s q.2):=by
 induction l with
 |nil=>rfl
 |cons p l ih=>
  by_cases e:p.1.q=m.q
  rw[show mY (p::l) m v=(m,v)::l from if_pos e];exact if_pos e
  rw[show mY (p::l) m v=p::mY l m v from if_neg e];exact(if_neg e).trans (congrArg _ ih)
def Kv{m:N5}{v:Str}:∀p∈mY l m v,p∈l\/p=(m,v):=by
 induction l with
 |nil=>exact λp hp=>.inr (au hp)
 |cons a l ih=>
  intro p hp;by_cases e:a.1.q=m.q
  rw[show mY (a::l) m v=(m,v)::l from if_pos e]at hp;exact(aA hp).elim .inr λh=>.inl (.tail _ h)
  rw[show mY (a::l) m v=a::mY l m v from if_neg e]at hp;exact(aA hp).elim (λh=>.inl (h▸.head _)) λh=>(ih p h).imp (.tail _) id
def Kw(l:List (N5×Str))(m:N5)(v:Str):(mY l m v).length<=l.length+1:=by
 induction l with
 |nil=>lia
 |cons a l ih=>
  by_cases e:a.1.q=m.q
  rw[show mY (a::l) m v=(m,v)::l from if_pos e];exact cF _
  rw[show mY (a::l) m v=a::mY l m v from if_neg e];exact cu ih
def Rm{m:N5}{v:Str}(h:(l.map (·.1.q)).Nodup):((mY l m v).map (·.1.q)).Nodup:=by
 have e:∀l:List _,l.map (·.1.q)=((dO l).map λq=>(q.1,V.s q.2)).map (·.1):=λl=>by unfold dO;rw[aR,aR];rfl
 rw[e,<- zG];exact tQ (e l▸h)
def vK(r:Int)(k:Nat):Str:=kyS.getD ((r/24+7*(k:Int)) % 5).toNat cJ
def wZ(r:Int)(k:Nat):Str:=if vK r k=mD then spS.getD ((r/24+7*(k:Int))/5 % 3).toNat cJ else V5.getD ((r/24+7*(k:Int))/5 % 9).toNat cJ
def Jk(r:Int)(ks:List Nat)(a:List (N5×Str)):List (N5×Str):=ks.foldl (λa k=>mY a (fL (vK r k)) (wZ r k)) a
def Ao(r:Int)(k:Nat):vK r k∈kyS:=nR _ rfl ()
def Hs(r:Int)(k:Nat):(wZ r k).length<20:=by
 have h1:∀x∈spS,x.length<20:=by decide+kernel
 have a:∀x∈V5,x.length<20:=by decide+kernel
 unfold wZ
 split
 exact h1 _ (nR _ rfl ())
 exact a _ (nR _ rfl ())
structure AtI (a:List (N5×Str)) (k:Nat):Prop where
 nd:(a.map (·.1.q)).Nodup
 mem:∀p∈a,p.1∈iz/\p.2.length<20
 len:a.length<=k
def AtI.step{a:List (N5×Str)}(h:AtI a k)(r:Int)(j:Nat):AtI (mY a (fL (vK r j)) (wZ r j)) (k+1):=
 ⟨Rm h.nd,λp hp=>(Kv p hp).elim (h.mem p) λe=>by rw[e];exact⟨(Ds _ (Ao r j)).2,Hs r j⟩,aK (Kw _ _ _) (cu h.len)⟩
def Vq{ks:List Nat}:∀{a:List (N5×Str)} {k:Nat},AtI a k->AtI (Jk r ks a) (k+ks.length):=by
 induction ks with
 |nil=>exact λh=>h
 |cons j ks ih=>
  intro a k h;rw[aO,<- Nat.add_assoc,Nat.add_right_comm];exact(ih (h.step r j))
def S9(l:List (N5×Str)):((dO l).map λq=>(q.1,V.s q.2)).length=l.length:=by unfold dO;rw[aB,aB]
def Dl{O tg:Nat}{k sd:Int}:∀z v,(iV O tg ky sg ev pa b x mv r pc t m).lookup z=some v->(Gp O tg ky sg ev pa b x mv r pc t m k sd kq).lookup z=some v:=ux
theorem Vr{O tg:Nat}{ks:List Nat}:∀{a:List (N5×Str)} {j:Nat},AtI a j->j+ks.length<800 ->
  FT (dK Y) 50 (dZ Y 190) (uP (fA Y)) (gJ (fA Y)) (ks.map λk:Nat=>.i k) (iV O tg ky sg ev pa b x mv r pc t m) [(sg,.l lB),(ky,.l gj),(m,fG (dO a))] (λU=>.next) (λU=>iV O tg ky sg ev pa b x mv r pc t m) (λU=>[(sg,.l lB),(ky,.l gj),(m,fG (dO (Jk r ks a)))]):=by
 induction ks with
 |nil=>exact λU U=>FT.nil
 |cons k ks ih=>
  intro a j h hl;have hk:atIdx gj (_ % 5)=some (.s (vK r k)):=q7 (l:=kyS) _ rfl () ();have c:=zG a (fL (vK r k)) (wZ r k);rw[(Ds _ (Ao r k)).1]at c;have hlen:((dO a).map λq=>(q.1,V.s q.2)).length<900:=by rw[S9];have:=h.len;lia
  have body:XS (dK Y) 50 (dZ Y 190) (Mj O tg ky sg ev pa b x mv r pc t m k) (gJ (fA Y)) ([(sg,.l lB),(ky,.l gj),(m,fG (dO a))]++[]) (λU=>.next) (λU=>Gp O tg ky sg ev pa b x mv r pc t m k (r/24+7*k) (vK r k)) (λU=>[(sg,.l lB),(ky,.l gj),(m,fG (dO (mY a (fL (vK r k)) (wZ r k))))]++[]):=by
   show XS _ _ _ _ _ _ _ _ λU=>[(sg,.l lB),_,(m,.d ((dO (mY a (fL (vK r k)) (wZ r k))).map λq=>(q.1,V.s q.2)))]++[];rw[<- c];by_cases e:vK r k=mD
   rw[show wZ r k=spS.getD ((r/24+7*(k:Int))/5 % 3).toNat cJ from if_pos e];exact aip hk () (q7 (l:=spS) _ rfl () ()) hlen
   rw[show wZ r k=V5.getD ((r/24+7*(k:Int))/5 % 9).toNat cJ from if_neg e];exact aio hk () (q7 (l:=V5) _ rfl () ()) hlen
  exact FT.cons (λU U=>rfl) body (λU=>rfl) λU=>(ih (h.step r k) (by rw[Nat.add_right_comm];exact hl)).forget Dl
end
section
open To
variable {s:S5} {R:LH}
def acq(r:Int):0<=r/8 % 4/\r/8 % 4<100000:=⟨Int.emod_nonneg _ (),Int.lt_trans (Int.emod_lt_of_pos _ ()) ()⟩
def aas{O tg:Nat}:EE (dK Y) 50 (dZ Y 190) (iV O tg ky sg ev pa b x mv r pc t m) (Ud (fA Y)) ([]++R) (λnw=>.g (r/8 % 4).toNat) (λnw=>[]++R):=EE.go [.keep []] (λU f=>a (acq r)<|f (λU=>0))
theorem Jx(Y:Z)(R:LH)(O tg ky sg ev pa:Nat)(b:Bool)(x mv r:Int)(pc t:Str)(m:Nat):XX (dK Y) 51 (dZ Y 190) (iV O tg ky sg ev pa b x mv r pc t m) (Internal.fs (fA Y)) ([(sg,.l lB),(ky,.l gj),(m,.d [])]++R) (λU=>.next) (λU=>iV O tg ky sg ev pa b x mv r pc t m) (λU=>[(sg,.l lB),(ky,.l gj),(m,fG (dO (Jk r (List.range (r/8 % 4).toNat) [])))]++R):=by
 have h:=Vr (Y:=Y) (O:=O) (tg:=tg) (ky:=ky) (sg:=sg) (ev:=ev) (pa:=pa) (b:=b) (x:=x) (mv:=mv) (r:=r) (pc:=pc) (t:=t) (m:=m) (ks:=List.range (r/8 % 4).toNat) (a:=[]) (j:=0) ⟨.nil,(λU h=>nomatch h),bT _⟩ (by
  rw[List.length_range];lia)
 exact XX.ah0 rfl (λU=>rfl) aas (h.frame)
def o8(sg tg ky ev pa:Nat)(ba:Bool)(evs:List E5):LH:=[(sg,.l lB),(tg,.l ((tE ba).map .s)),(ky,.l gj),(ev,.l (evs.map gP)),(pa,.l ((evs.foldl stE ([],false)).1.reverse.map λt=>V.s t.q))]
structure EvI (i:Nat) (evs:List E5):Prop where
 wf:WF ([],false) evs
 len:evs.length<=2*i
 stk:(evs.foldl stE ([],false)).1.length<=i
def uW(l:List E5)(e:E5):iK (l++[e])=iK l++dcE e:=by
 unfold iK;simp
def swp{a b c d e:Nat×dN}:([a,b,c,d,e]++X).Perm ([d,e]++([a,b,c]++X)):=by
 have h:([a,b,c]++[d,e]).Perm ([d,e]++[a,b,c]):=c7;exact(h.append_right X)
inductive GoI (O tg ky sg ev pa:Nat) (ba:Bool) (R:LH) (i:Nat) (J:Loc) (l:LH):Prop
 |mk (evs:List E5) (h:EvI i evs) (hl:∀y v,(oZ O tg ky sg ev pa (evs.foldl stE ([],false)).2).lookup y=some v->J.lookup y=some v) (e:l=o8 sg tg ky ev pa ba evs++(iK evs++R)):GoI O tg ky sg ev pa ba R i J l
abbrev GoE(O tg ky sg ev pa:Nat)(ba:Bool)(R:LH)(i:Nat)(fl:Fl)(J:Loc)(l:LH):Prop:=uL fl=true/\GoI O tg ky sg ev pa ba R i J l
theorem yD{O tg:Nat}{e:E5}(h:EvI i evs)(hd:dcE e=[])(c:Qm (evs.foldl stE ([],false)) e)(hk:(stE (evs.foldl stE ([],false)) e).1.length<=i+1)(hp:rA=(evs.foldl stE ([],false)).1.reverse.map λt=>V.s t.q) (a:acB=(stE (evs.foldl stE ([],false)) e).1.reverse.map λt=>V.s t.q) (hl:∀y v,(oZ O tg ky sg ev pa (stE (evs.foldl stE ([],false)) e).2).lookup y=some v->mH.lookup y=some v)(d:∀R,XS (dK Y) 60 (dZ Y 190) J body ([(ev,.l (evs.map gP)),(pa,.l rA)]++R) (λU=>.next) (λU=>mH) (λU=>[(ev,.l (evs.map gP++[gP e])),(pa,.l acB)]++R)):XP (dK Y) 60 (dZ Y 190) J body (o8 sg tg ky ev pa ba evs++(iK evs++R)) (GoE O tg ky sg ev pa ba R (i+1)):=by
 subst hp a;refine(XP.of (Q:=λfl J l=>fl=.next/\J=mH/\l=_) (d _) λU=>⟨rfl,rfl,rfl⟩).perm swp |>.to λfl J l b=>?_
 obtain⟨rfl,rfl,rfl⟩:=b;refine⟨_,swp,rfl,evs++[e],⟨h.wf.snoc c,?_,by rw[n6];exact hk⟩,by rw[n6];exact hl,?_⟩
 rw[aC];have:=h.len;show _+1<=_;lia
 rw[uW,hd,aX];unfold o8;rw[n6,aH];rfl
end
section
variable {R:LH} {O tg:Nat}
def pcI(x:Int):Str:=(V5++[(⟨#[(x/6/10 % 1114112).toNat]⟩:Str)]).getD (x/6 % 10).toNat cJ
def K5(x:Int):(pcI x).length<=3:=by
 have h:pcI x∈V5++[(⟨#[(x/6/10 % 1114112).toNat]⟩:Str)]:=nR _ rfl ();rcases aD h with h|h
 exact(by decide+kernel:∀y∈V5,y.length<=3) _ h
 rw[au h];exact bO rfl
def acT(x:Int):atIdx (lB++[V.s ⟨#[(x/6/10 % 1114112).toNat]⟩]) (x/6 % 10)=some (.s (pcI x)):=q7 (l:=V5++[(⟨#[(x/6/10 % 1114112).toNat]⟩:Str)]) _ rfl () (show 10<1000 by decide)
def nU:∀y v,(oZ O tg ky sg ev pa b).lookup y=some v->(iW O tg ky sg ev pa b x mv r pc).lookup y=some v:=ux
def Ir:∀y v,(oZ O tg ky sg ev pa b).lookup y=some v->(iV O tg ky sg ev pa b x mv r pc t m).lookup y=some v:=ux
def aam(h:EvI i evs)(hi:i<200):(evs.map gP).length<900:=by rw[aB];have:=h.len;lia
def XP.ofS{O:Sc}{dI:Pl->Loc}(h:XS pe n O J body L fl dI l'):XP pe n O J body L λf lo l=>∃x,f=fl x/\lo=dI x/\l=l' x:=XP.of h λx=>⟨x,rfl,rfl,rfl⟩
theorem Ov{pre:List E5}(h:EvI i evs)(h1:t1∈tE ba)(o:t2∈(["a","x"]:List Str))(k:(evs.foldl stE ([],false)).1=[]->(evs.foldl stE ([],false)).2=false/\t2="a")(a:pre=[]\/(pre=[.told "q" "u"]/\(evs.foldl stE ([],false)).1≠[]))(hp:rA=(evs.foldl stE ([],false)).1.reverse.map λt=>V.s t.q)(n:∀R,XS (dK Y) 60 (dZ Y 190) J body ([(sg,.l lB),(tg,.l ((tE ba).map .s)),(ky,.l gj),(ev,.l (evs.map gP)),(pa,.l rA)]++R) (λU=>.next) (λnw=>iV O tg ky sg ev pa true x 0 r pc (t1++t2) (nw 0)) (λnw=>[(sg,.l lB),(tg,.l ((tE ba).map .s)),(ky,.l gj),(ev,.l (evs.map gP++pre.map gP++[.t [.s "start",.s (t1++t2),.r (nw 0)]])),(pa,.l (rA++[.s (t1++t2)])),(nw 0,fG (dO (Jk r (List.range (r/8 % 4).toNat) [])))]++R)):XP (dK Y) 60 (dZ Y 190) J body (o8 sg tg ky ev pa ba evs++(iK evs++R)) (GoE O tg ky sg ev pa ba R (i+1)):=by
 subst hp;obtain⟨d,w,u⟩:=JZ h1 o;have b:AtI (Jk r (List.range (r/8 % 4).toNat) []) (0+(List.range (r/8 % 4).toNat).length):=Vq ⟨.nil,(λU h=>nomatch h),bT _⟩;rw[List.length_range,Nat.zero_add]at b;have z:(r/8 % 4).toNat<=3:=by have:=nA (r/8) (m:=4) ();lia
 generalize Jk r (List.range (r/8 % 4).toNat) []=at' at b n;have e:fO at':=⟨b.nd,λp hp=>(b.mem p hp).1,aK b.len z,λp hp=>cA (b.mem p hp).2 ()⟩;refine(XP.ofS (n (iK evs++R))).to λfl J l v=>?_;obtain⟨nw,rfl,rfl,rfl⟩:=v;have y:stE (pre.foldl stE (evs.foldl stE ([],false))) (E5.start (fL (t1++t2)) (nw 0) at')=(fL (t1++t2)::(evs.foldl stE ([],false)).1,true):=by
  rcases a with rfl|⟨rfl,_⟩ <;> rfl
 have g:pre.foldl stE (evs.foldl stE ([],false))=evs.foldl stE ([],false):=by rcases a with rfl|⟨rfl,_⟩ <;> rfl
 have hf:(evs++pre++[E5.start (fL (t1++t2)) (nw 0) at']).foldl stE ([],false)=(fL (t1++t2)::(evs.foldl stE ([],false)).1,true):=by
  rw[n6,cU];exact y
 have hd:iK (evs++pre)=iK evs:=by
  rcases a with rfl|⟨rfl,_⟩
  rw[aX]
  rw[uW];exact aX _
 refine⟨o8 sg tg ky ev pa ba (evs++pre++[E5.start (fL (t1++t2)) (nw 0) at'])++(iK (evs++pre++[E5.start (fL (t1++t2)) (nw 0) at'])++R),?_,rfl,_,⟨?_,?_,?_⟩,?_,rfl⟩
 unfold o8;have f:gP (E5.start (fL (t1++t2)) (nw 0) at')=.t [.s "start",.s (t1++t2),.r (nw 0)]:=by
  show V.t [_,.s (fL (t1++t2)).q,_]=_;rw[d]
 rw[hf,uW,hd,aH,aH,cV,aH,cC,cC,List.map_nil,List.map_nil];show(_++(iK evs++[(nw 0,fG (dO at'))]++R)).Perm ([(sg,_),(tg,_),(ky,_),(ev,_),(pa,_)]++((nw 0,fG (dO at'))::(iK evs++R)));rw[d,f];refine List.Perm.append (.refl _) ?_;rw[aQ];exact cG
 refine WF.snoc ?_ ?_
 rcases a with rfl|⟨rfl,c⟩
 rw[aX];exact h.wf
 exact h.wf.snoc ⟨rfl,rfl,c⟩
 rw[cU,g];exact⟨w,e,λp hp=>(b.mem p hp).2,λj=>⟨(k j).1,by rw[d];exact u (k j).2⟩⟩
 rw[aC,aC];have:=h.len;have:pre.length<=1:=by rcases a with rfl|⟨rfl,_⟩ <;> decide
 show _+1<=_;lia
 rw[hf];exact cu h.stk
 rw[hf];exact Ir
theorem ad3(h:EvI i evs)(hi:i<200):XP (dK Y) 60 (dZ Y 190) (Wi O tg ky sg ev pa (evs.foldl stE ([],false)).2 x) (gJ (nj Y)) (o8 sg tg ky ev pa ba evs++(iK evs++R)) (GoE O tg ky sg ev pa ba R (i+1)):=by
 refine(ah7 (acT x)).QK λU=>?_;have d:=K5 x;have c:=aam h hi;have o:∃v:Option Str,atIdx [.n,.s "",.s (pcI x)] (x/6/10 % 3)=some (oV v)/\∀z,v=some z->z.length<=3:=by
  have h1:=nA (x/6/10) (m:=3) ();have w:=sW (x/6/10) (m:=3) ();generalize x/6/10 % 3=j at h1 w;have K:j=0\/j=1\/j=2:=by lia
  rcases K with rfl|rfl|rfl
  exact⟨none,rfl,λU h=>gB h⟩
  exact⟨some "",rfl,λz h=>by cases h;decide⟩
  exact⟨some (pcI x),rfl,λz h=>by cases h;exact d⟩
 generalize pcI x=pc at d o;have H:=sW x (m:=6) ();have G:=nA x (m:=6) ();generalize x % 6=mv at H G;generalize x/6=r at o;show XP _ _ _ _ _ (o8 sg tg ky ev pa ba evs++(iK evs++R)) _;have g:∃stk b,evs.foldl stE ([],false)=(stk,b):=⟨_,_,rfl⟩;obtain⟨stk,b,a⟩:=g;have hk:=h.stk;rw[a]at hk;have hb:(evs.foldl stE ([],false)).2=b:=by rw[a]
 rw[hb];have dat:(∀R,XS (dK Y) 60 (dZ Y 190) (iW O tg ky sg ev pa b x mv r pc) ((gJ (nj Y)).drop 2) _ (λU=>.next) (λU=>iW O tg ky sg ev pa b x mv r pc) (λU=>[(ev,.l (evs.map gP++[gP (.dat pc)])),(pa,.l (stk.reverse.map λt=>V.s t.q))]++R))->XP (dK Y) 60 (dZ Y 190) (iW O tg ky sg ev pa b x mv r pc) ((gJ (nj Y)).drop 2) (o8 sg tg ky ev pa ba evs++(iK evs++R)) (GoE O tg ky sg ev pa ba R (i+1)):=λL=>
  yD h rfl (by exact d) (by rw[a];exact cZ hk) (by rw[a]) (by rw[a];rfl) (by rw[a];exact nU) L
 have t1:=nR (l:=tE ba) (m:=4) r rfl ();have B:=q7 (l:=tE ba) (m:=4) r rfl () (show 4<1000 by decide);have k:∀y∈tE ba,y.length<1000:=by cases ba <;> decide+kernel
 by_cases D:mv=0
 subst D;cases stk with
 |nil=>
  cases b with
  |true=>exact dat λR=>aeH c
  |false=>
   refine Ov (x:=x) (r:=r) (pc:=pc) (pre:=[]) (t2:="a") (rA:=[]) h t1 (.head _) (λU=>⟨hb,rfl⟩) (.inl rfl) (by rw[a];rfl) λR=>?_;rw[show evs.map gP++[].map gP=evs.map gP from aX _];exact aeF B (k _ t1) c λm=>Jx Y R _ _ _ _ _ _ _ _ _ _ _ _ m
 |cons t stk=>
  have hp:(!((t::stk).reverse.map λt:N5=>V.s t.q).isEmpty)=true:=by rw[cV,aH];exact Y0 _ _
  have u:((t::stk).reverse.map λt:N5=>V.s t.q).length<900:=by rw[aB,cW];lia
  have t2:=nR (l:=["a","x"]) (m:=2) (r/4) rfl ();have w:atIdx [V.s "a",V.s "x"] (r/4 % 2)=_:=q7 (l:=["a","x"]) (m:=2) (r/4) rfl () (show 2<1000 by decide);have p:∀y∈(["a","x"]:List Str),y.length<1000:=by decide+kernel
  have f:(evs.foldl stE ([],false)).1≠[]:=by rw[a];exact dG _ _
  cases ho:(r/24 % 4)==1 with
  |true=>exact Ov (pre:=[.told "q" "u"]) h t1 t2 (λq=>absurd q f) (.inr ⟨rfl,f⟩) (by rw[a]) λR=>aeE B (k _ t1) (p _ t2) c w hp u ho λm=>Jx Y R _ _ _ _ _ _ _ _ _ _ _ _ m
  |false=>
   refine Ov (x:=x) (r:=r) (pc:=pc) (pre:=[]) h t1 t2 (λq=>absurd q f) (.inl rfl) (by rw[a]) λR=>?_;rw[show evs.map gP++[].map gP=evs.map gP from aX _];exact aeD B (k _ t1) (p _ t2) c w hp u ho λm=>Jx Y R _ _ _ _ _ _ _ _ _ _ _ _ m
 by_cases C:mv=1
 subst C;cases stk with
 |nil=>exact dat λR=>aeG c
 |cons t stk=>
  refine yD (e:=.fin t) (acB:=stk.reverse.map λt=>V.s t.q) h rfl (by rw[a];rfl) (by rw[a];exact cZ (Nat.le_of_succ_le hk)) (by rw[a,cV,aH];rfl) (by rw[a];rfl) (by rw[a];exact nU (x:=x) (mv:=1) (r:=r) (pc:=pc)) λR=>ah5 ?_ c;rw[aB,cW];have:(t::stk).length<=i:=hk;rw[aO]at this;lia
 by_cases F:mv=4
 subst F;exact yD (e:=.com pc) h rfl (by exact d) (by rw[a];exact cZ hk) (by rw[a]) (by rw[a];rfl) (by rw[a];exact nU) λR=>ah6 c
 by_cases E:mv=5
 subst E;obtain⟨v,I,A⟩:=o;exact yD (e:=.pi v) h rfl A (by rw[a];exact cZ hk) (by rw[a]) (by rw[a];rfl) (by rw[a];exact nU) λR=>ah4 I c
 exact dat λR=>aeI (bB D) (bB C) (bB F) (bB E) c
end
section
open To
variable {R:LH}
theorem Ut{O tg:Nat}{xs:List Int}:∀{i:Nat} {evs:List E5},EvI i evs->i+xs.length<200->FQ (dK Y) 60 (dZ Y 190) (uP (nj Y)) (gJ (nj Y)) (xs.map .i) (oZ O tg ky sg ev pa (evs.foldl stE ([],false)).2) (o8 sg tg ky ev pa ba evs++(iK evs++R)) (GoI O tg ky sg ev pa ba R (i+xs.length)):=by
 induction xs with
 |nil=>exact λ{i evs} h U=>FQ.nil ⟨evs,h,λU U h=>h,rfl⟩
 |cons x xs ih=>
  intro i evs h hi;rw[aO]at hi;refine FQ.cons (λU U=>rfl) ((ad3 h ()).imp λfl J l q=>?_);obtain⟨d,b,c,hl,rfl⟩:=q;have:=ih c ();rw[Nat.add_assoc,Nat.add_comm 1]at this;exact⟨d,this.forget hl⟩
def Vo(evs:List E5):∀{x:List N5×Bool},(x.2=false->x.1=[])->(evs.foldl stE x).2=false->(evs.foldl stE x).1=[]:=by
 induction evs with
 |nil=>exact λh=>h
 |cons e evs ih=>
  intro x h;refine ih ?_;cases e with
  |start=>exact λh=>iC h.symm
  |fin t=>exact λq=>by show x.1.tail=[];rw[h q];rfl
  |_=>exact h
abbrev eX(Y:Z):Expr:=(px (sO (B190 Y)[3]?).1).1
abbrev scX(Y:Z):Sc:=(px (eX Y)).2.2.2
noncomputable def adJ(t:Str):Loc:=[("tag",.s t)]
noncomputable def vN(t:Str):V:=.t [.s "end",.s t,.n]
noncomputable def Gs:List V:=[.t [.s "data",.s "<",.n],.t [.s "comment",.s ">",.n],.t [.s "pi",.s "t",.s "&"]]
def x4L{l:List V}(h:l.length<2000):l.length+3<=lim:=aK (Nat.add_le_add_right (cj h) 3) ()
def x3L{l:List V}(m:List V)(h:l.length<2000)(a:m.length=3):l.length+m.length<=lim:=by rw[a];exact x4L h
def x5L(m:List V)(h:l.length<2000)(a:m.length=3):(l++m).length+3<=lim:=by
 rw[aC,a];exact aK (Nat.add_le_add_right (Nat.add_le_add_right (cj h) 3) 3) ()
def nd1:(([("{u}k",V.s "\t")]:List (Str×V)).map λx=>x.1).Nodup:=List.nodup_cons.mpr ⟨cR,.nil⟩
def exL{l:List V}{ts:List Str}(h:l.length<900)(a:ts.length<900):l.length+(ts.reverse.map vN).length<=lim:=by
 rw[aB,cW];exact aK (dg (cj h) (cj a)) ()
def aeO{O tg:Nat}(c:xs.length<900):EE (dK Y) 50 (dZ Y 190) (oZ O tg ky sg ev pa b) (Qq (eX Y)) ([(pa,.l xs)]++R) (λnw=>.r (nw 0)) (λnw=>[(pa,.l xs),(nw 0,.l (jN xs none none (some (-1))))]++R):=EE.go [n 0,.keep [0,1]] (λU f=>dH pa<|a (cj (m8 c))<|λd=>f (λU=>d))
def aeP:EE (dK Y) 50 (scX Y) (adJ t) ((px (eX Y)).1) ([]++R) (λnw=>vN t) (λnw=>[]++R):=EE.go [.keep []] (λU f=>f (λU=>0))
theorem aie(Y:Z)(R:LH)(O tg ky sg ev pa:Nat)(b:Bool){ts:List Str}(hl:ts.length<900):EC (dK Y) 51 (dZ Y 190) (oZ O tg ky sg ev pa b) (eX Y) ([(pa,.l (ts.map .s))]++R) (λz=>.r (z 0)) (λz=>[(pa,.l (ts.map .s)),(z 0,.l (ts.reverse.map vN))]++R):=by
 have hc:jN (ts.map V.s) none none (some (-1))=ts.reverse.map .s:=by rw[qg,dD]
 have hi:=aeO (Y:=Y) (R:=R) (O:=O) (tg:=tg) (ky:=ky) (sg:=sg) (ev:=ev) (pa:=pa) (b:=b) (xs:=ts.map .s) (by rw[aB];exact hl);rw[hc]at hi;have c:ts.reverse.flatMap (λt=>[vN t])=ts.reverse.map vN:=List.map_eq_flatMap.symm;have a:CT (dK Y) 50 (scX Y) (.el (px (eX Y)).1) [] (Px (eX Y)) [] (ts.reverse.map .s) (around (scX Y) (oZ O tg ky sg ev pa b)) ([(pa,.l (ts.map .s))]++R) (λU=>ts.reverse.map vN) (λU=>[(pa,.l (ts.map .s))]++R):=by
  rw[<- c];exact CT.flat λt U=>⟨adJ t,λU U=>rfl,.inl ⟨EY.nil,BK.el (aeP)⟩⟩
 have key:EC (dK Y) 51 (dZ Y 190) _ (eX Y) _ (λx=>.r (x 0)) _:=
  EC.lc rfl rfl (.new (ZZ.perm hi (.refl _) λz=>(cG (l₂:=[])).trans (by rw[aX];exact List.Perm.swap ..))) rfl a (by rw[aB,cW];exact cj (m8 hl))
 exact key.perm (.refl _) λz=>by rw[aX];exact List.Perm.swap ..
theorem aeB{O tg:Nat}{ts:List Str}{es:List V}(hl:ts.length<900)(c:es.length<900):PX (dK Y) 61 (dZ Y 190) ((B190 Y).drop 3) (((B190 Y).drop 3).drop 1) (oZ O tg ky sg ev pa b) ([(tg,.l yZ),(ky,.l gj),(ev,.l es),(pa,.l (ts.map .s))]++R) (λnw=>oZ O tg ky sg ev pa b) (λnw=>[(tg,.l yZ),(ky,.l gj),(ev,.l (es++ts.reverse.map vN))]++R):=PX.go 1 [n 2,.call 51 [3] (λU z=>.r (z 0)) (λU z=>[(pa,.l (ts.map .s)),(z 0,.l (ts.reverse.map vN))]) (λU U=>R),n 4,.keep [0,1,2]] (λU f=>dH ev<|a (aie Y R O tg ky sg ev pa b hl)<|λ(d:Pl)=>a (e (d 0))<|dH ev<|a (exL c hl)<|f (λU=>0))
def aeA{O tg:Nat}{es:List V}(b:es.length<2000):XS (dK Y) 61 (dZ Y 190) (oZ O tg ky sg ev pa true) ((B190 Y).drop 4) ([(tg,.l (.s t1::yZ)),(ky,.l gj),(ev,.l es)]++R) (λnw=>.ret (.r (nw 0))) (λnw=>oZ O tg ky sg ev pa true) (λnw=>[(ky,.l gj),(nw 0,.l (es++Gs))]++R):=XS.go [n 0,n 2,n 3,.keep [1,4]] (λU f=>λd=>dH ev<|dH d<|a (x4L b)<|λc=>f (λU=>c))
theorem aez{O tg:Nat}{es:List V}(c:es.length<2000)(h1:t1.length<1000):XS (dK Y) 61 (dZ Y 190) (oZ O tg ky sg ev pa false) ((B190 Y).drop 4) ([(tg,.l (.s t1::yZ)),(ky,.l gj),(ev,.l es)]++R) (λnw=>.ret (.r (nw 1))) (λnw=>oZ O tg ky sg ev pa false) (λnw=>[(ky,.l gj),(nw 0,.d [("{u}k",.s "\t")]),(nw 1,.l (es++[.t [.s "start",.s (t1++"a"),.r (nw 0)],.t [.s "data",.s " > ",.n],.t [.s "end",.s (t1++"a"),.n]]++Gs))]++R):=XS.go [n 0,n 2,n 0,.n 0,n 1,.n 0,n 0,.n 0,n 4,n 2,n 5,.keep [1,3,6]] (λU f=>dH ev<|dH tg<|a (J0 h1 aL)<|dH ky<|a (nd1)<|λb=>dH tg<|a (J0 h1 aL)<|λe=>dH e<|dH ev<|a (x3L [.t [.s "start",.s (t1++"a"),.r b],.t [.s "data",.s " > ",.n],.t [.s "end",.s (t1++"a"),.n]] c rfl)<|λm2=>dH ev<|dH m2<|a (x5L [.t [.s "start",.s (t1++"a"),.r b],.t [.s "data",.s " > ",.n],.t [.s "end",.s (t1++"a"),.n]] c rfl)<|λg=>f (Qi [b,g]))
def aeC{O tg:Nat}:PX (dK Y) 61 (dZ Y 190) (B190 Y) ((B190 Y).drop 2) ([("script",.r O),("tags",.r tg),("keys",.r ky)]) ([(O,.l xs),(tg,.l yZ),(ky,.l gj)]++R) (λnw=>oZ O tg ky (nw 0) (nw 1) (nw 2) false) (λnw=>[(O,.l xs),(tg,.l yZ),(ky,.l gj),(nw 0,.l lB),(nw 1,.l []),(nw 2,.l [])]++R):=PX.go 2 [.keep [0,1,2,3,4,5]] (λU f=>λb=>λa=>λm2=>f (Qi [b,a,m2]))
end
section
section
variable {pe:Pe} {n:Nat} {f:Addr} {ps:List (Str×Src)} {A:V->LH->Prop}
inductive CQr (cx:Cx) (n:Nat) (g:V) (args:List V) (kw:List (Str×V)) (H:Hp) (L:LH) (A:V->LH->Prop):Prop
 |mk (v:V) (l':LH) (H':Hp) (q:A v l') (e:gV cx n g args kw H v H') (t:Tp H L H' l'):CQr cx n g args kw H L A
def CQ(pe:Pe)(n:Nat)(g:V)(args:List V)(kw:List (Str×V))(L:LH)(A:V->LH->Prop):Prop:=∀⦃cx⦄,eY pe cx->∀H,Has H L->CQr cx n g args kw H L A
def CQ.ofF(i:yW pe f k kn ps O body)(hk:args.length=k)(a:kw.map (·.1)=kn)(h:XQ pe n O (ps.map λp=>(p.1,p.2.get args (kw.map (·.2)))) body L A):CQ pe (n+1) (.f f) args kw L A:=λU P H d=>by
 obtain⟨fd,h1,b,j,g⟩:=i.go;obtain⟨w,l,fl,dI,H',q,c,e,t⟩:=h P H d;subst hk a;exact⟨w,l,H',q,KD (iR P h1 b j g e c),t⟩
def XQ.ofS{dI:Pl->Loc}{v:Pl->V}(h:XS pe n O J body L fl dI l')(a:∀x,flV (fl x)=some (v x)):XQ pe n O J body L λw l=>∃x,w=v x/\l=l' x:=XQ.of h a λx=>⟨x,rfl,rfl⟩
def XQ.tos(h:XQ pe n O J body L A)(b:∀v l,A v l->Ex2 λl1 l2=>l1.Sublist l/\l2.Perm l1/\A' v l2):XQ pe n O J body L A':=λU P H d=>by
 obtain⟨v,l',fl,dI,H',q,c,e,t⟩:=h P H d;obtain⟨l1,l2,h1,a,f⟩:=b _ _ q;exact⟨v,l2,fl,dI,H',f,c,e,(t.sub h1).to a⟩
end
variable {R:LH}
noncomputable def Ah:List E5:=[.dat "<",.com ">",.pi (some "&")]
structure EvF (evs:List E5):Prop where
 wf:WF ([],false) evs
 fin:evs.foldl stE ([],false)=([],true)
 len:evs.length<=300
def Qy:WF (l,true) (l.map E5.fin)/\(l.map E5.fin).foldl stE (l,true)=([],true):=by
 induction l with
 |nil=>lia
 |cons t l ih=>exact⟨⟨rfl,ih.1⟩,ih.2⟩
def wY:WF x Ah/\Ah.foldl stE x=x:=⟨⟨by show("<":Str).length<=3;decide,by show(">":Str).length<=3;decide,λz h=>by cases h;decide,trivial⟩,rfl⟩
def qb(a b:List E5):iK (a++b)=iK a++iK b:=List.flatMap_append
def O9(l:List N5):iK (l.map E5.fin)=[]:=by
 induction l with
 |nil=>rfl
 |cons t l ih=>exact ih
def Uq(l:List N5):(l.map (·.q)).map vN=(l.map E5.fin).map gP:=by rw[aR,aR];rfl
def JX(ba:Bool):∃t1 r,tE ba=t1::r/\t1.length<1000/\t1∈tE ba:=⟨_,_,rfl,by cases ba <;> decide+kernel,.head _⟩
theorem afD(Y:Z)(R:LH)(O tg ky:Nat)(ba:Bool){xs:List Int}(hl:xs.length<=63):CQ (dK Y) 62 (.f 190) [.r O,.r tg,.r ky] [] ([(O,.l (xs.map .i)),(tg,.l ((tE ba).map .s)),(ky,.l gj)]++R) λv l=>∃p evs,v=.r p/\EvF evs/\l=[(ky,.l gj),(p,.l (evs.map gP))]++(iK evs++R):=by
 refine CQ.ofF ⟨_,Jc Y.P Y.sa Y.is,HB Y.P,by kernel_rfl,rfl⟩ rfl rfl ((aeC (R:=R)).vh λz=>?_);generalize K:z 0=sg;generalize X:z 1=ev;generalize S:z 2=pa;have A:([(O,dN.l (xs.map .i)),(tg,.l ((tE ba).map .s)),(ky,.l gj),(sg,.l lB),(ev,.l []),(pa,.l [])]++R).Perm (o8 sg tg ky ev pa ba []++(iK []++R)++[(O,.l (xs.map .i))]):=by
  have h1:([(tg,dN.l ((tE ba).map .s)),(ky,.l gj),(sg,.l lB),(ev,.l []),(pa,.l [])]++R).Perm (o8 sg tg ky ev pa ba []++(iK []++R)):=
   cG (l₁:=[(tg,dN.l ((tE ba).map .s)),(ky,dN.l gj)]) (a:=(sg,dN.l lB)) (l₂:=[(ev,dN.l []),(pa,dN.l [])]++R)
  exact(List.Perm.cons _ h1).trans (c7 (l₁:=[(O,dN.l (xs.map .i))]))
 have h0:EvI 0 []:=⟨trivial,bT _,bT _⟩;refine XQ.perm (L:=o8 sg tg ky ev pa ba []++(iK []++R)++[(O,.l (xs.map .i))]) ?_ A;refine(PQ.Z8 rfl (EE.name rfl) (Ut (Y:=Y) (R:=R) (xs:=xs) h0 ())).vh λJ l o=>?_;obtain⟨l0,rfl,evs,u,m,rfl⟩:=o;refine XQ.forget m (XQ.drop ?_);have hb:=Vo evs (x:=([],false)) λU=>rfl;have e:∃stk b,evs.foldl stE ([],false)=(stk,b):=⟨_,_,rfl⟩;obtain⟨stk,b,c⟩:=e;rw[c]at hb;have F:stk.length<=63:=by have:=u.stk;rw[c]at this;exact aK this (by rw[Nat.zero_add];exact hl)
 have hlen:evs.length<=126:=by have:=u.len;lia
 have w:(evs.map gP).length<900:=by rw[aB];lia
 have C:(stk.reverse.map (·.q)).length<900:=by rw[aB,cW];lia
 obtain⟨t1,G,ht,D,E⟩:=JX ba;have I:=aeB (Y:=Y) (R:=[(sg,.l lB)]++(iK evs++R)) (O:=O) (tg:=tg) (ky:=ky) (sg:=sg) (ev:=ev) (pa:=pa) (b:=b) (ts:=stk.reverse.map (·.q)) (yZ:=(tE ba).map .s) (es:=evs.map gP) C w;rw[show(evs.foldl stE ([],false)).2=b by rw[c]];have j:(stk.reverse.map (·.q)).reverse.map vN=(stk.map E5.fin).map gP:=by rw[<- dD,List.reverse_reverse,Uq]
 rw[j,<- aH]at I;have B:(o8 sg tg ky ev pa ba evs++(iK evs++R)).Perm ([(tg,.l ((tE ba).map .s)),(ky,.l gj),(ev,.l (evs.map gP)),(pa,.l ((stk.reverse.map (·.q)).map .s))]++([(sg,.l lB)]++(iK evs++R))):=by
  unfold o8;rw[c,aR];exact(cG (l₁:=[(tg,dN.l ((tE ba).map .s)),(ky,.l gj),(ev,.l (evs.map gP)),(pa,.l (stk.reverse.map λt=>V.s t.q))]) (a:=(sg,.l lB)) (l₂:=iK evs++R)).symm
 refine XQ.perm (I.vh λz2=>?_) B;have g:((evs++stk.map E5.fin).map gP).length<2000:=by rw[aB,aC,aB];lia
 rw[ht];have k:∀{x:LH},(x++(iK evs++R)).Sublist (x++([(sg,dN.l lB)]++(iK evs++R))):=λ{x}=>(List.sublist_append_right ..).append_left _;cases b with
 |true=>
  refine(XQ.ofS (v:=λnw=>.r (nw 0)) (aeA (yZ:=G.map .s) (t1:=t1) g) (λU=>rfl)).tos λv l o=>?_;obtain⟨nw,rfl,rfl⟩:=o;have h:=Qy (l:=stk);refine⟨_,_,k,.refl _,nw 0,evs++stk.map E5.fin++Ah,rfl,⟨?_,?_,?_⟩,?_⟩
  refine WF.app.mpr ⟨WF.app.mpr ⟨u.wf,?_⟩,?_⟩
  rw[c];exact h.1
  rw[cU,c,h.2];exact wY.1
  rewrite [cU,cU,c,h.2];exact wY.2
  rw[aC,aC,aB];show _+3<=_;lia
  rw[qb,qb,O9,aX,show(evs++stk.map E5.fin++Ah).map gP=(evs++stk.map E5.fin).map gP++Gs from aH];show _=[(ky,.l gj),(nw 0,.l ((evs++stk.map E5.fin).map gP++Gs))]++(iK evs++[]++R);rw[aX]
 |false=>
  have hz:stk=[]:=hb rfl;subst hz;obtain⟨H,g2,N⟩:=JZ (ba:=ba) (y:="a") E (.head _);have hk:=(Ds "{u}k" (.tail _ (.head _)));rw[show evs++List.map E5.fin ([]:List N5)=evs from aX _]at g ⊢;refine(XQ.ofS (v:=λnw=>.r (nw 1)) (aez (yZ:=G.map .s) (t1:=t1) g D) (λU=>rfl)).tos λv l o=>?_;obtain⟨nw,rfl,rfl⟩:=o;have M:fO [(fL "{u}k","\t")]:=⟨List.nodup_cons.mpr ⟨cR,.nil⟩,λp hp=>(by rw[au hp];exact hk.2),bO rfl,λp hp=>(by rw[au hp];exact(by decide:("\t":Str).length<1000))⟩;have h:WF ([],false) [.start (fL (t1++"a")) (nw 0) [(fL "{u}k","\t")],.dat " > ",.fin (fL (t1++"a"))]:=⟨⟨g2,M,λp hp=>(by rw[au hp];exact(by decide:("\t":Str).length<20)),λU=>⟨rfl,(by rw[H];exact N rfl)⟩⟩,(by decide:(" > ":Str).length<=3),rfl,trivial⟩;refine⟨_,_,k,?_,nw 1,evs++[.start (fL (t1++"a")) (nw 0) [(fL "{u}k","\t")],.dat " > ",.fin (fL (t1++"a"))]++Ah,rfl,⟨?_,?_,?_⟩,rfl⟩
  have Q:([E5.start (fL (t1++"a")) (nw 0) [(fL "{u}k","\t")],.dat " > ",.fin (fL (t1++"a"))].map gP)=[.t [.s "start",.s (t1++"a"),.r (nw 0)],.t [.s "data",.s " > ",.n],.t [.s "end",.s (t1++"a"),.n]]:=by
   show[V.t [_,.s (fL (t1++"a")).q,_],_,V.t [_,.s (fL (t1++"a")).q,_]]=_;rw[H];rfl
  rw[aH,aH,Q,qb,qb];have P:fG (dO [(fL "{u}k","\t")])=.d [("{u}k",.s "\t")]:=by
   show dN.d [((fL "{u}k").q,V.s "\t")]=_;rw[hk.1]
  show([(ky,_),(nw 1,_)]++(iK evs++[(nw 0,fG (dO [(fL "{u}k","\t")]))]++[]++R)).Perm _;rw[P,aX,aQ (iK evs)];exact((cG (l₁:=[(ky,dN.l gj),(nw 1,_)]++iK evs) (a:=(nw 0,dN.d [("{u}k",V.s "\t")])) (l₂:=R)).trans (List.Perm.swap ..)).trans (.refl _)
  refine WF.app.mpr ⟨WF.app.mpr ⟨u.wf,?_⟩,?_⟩
  rw[c];exact h
  rw[cU,c];exact wY.1
  rw[cU,cU,c];rfl
  rw[aC,aC];show _+3+3<=_;lia
end
section
open To
variable {R:LH}
abbrev fW(Y:Z):List Stmt:=fQ Y 195
abbrev eF(Y:Z):Expr:=(sO (fW Y)[1]?).1
set_option backward.match.sparseCases false in
def aiJ:Expr->Expr
 |.Compare x _ _ _=>x
 |_=>e0
abbrev eS(Y:Z):Expr:=(px (px (px (aiJ (px (eF Y)).1)).1).1).1
abbrev V6(Y:Z):Sc:=(px (eF Y)).2.2.2
noncomputable def Ip(sa:Addr)(k:Int):Loc:=[("script",.f sa),("k",.i k)]
noncomputable def pC(l:List Int)(k:Int):Bool:=l.sum/2 ^ k.toNat % 2==1
set_option backward.match.sparseCases false in
def afN:Stmt->Expr
 |.Assign ts _ _=>ts.headD e0
 |_=>e0
abbrev tx3(Y:Z):Expr:=((fW Y)[3]?).elim e0 afN
noncomputable def eZ(b:Bool):List V:=[.t [.s "told",.s "q",.s "u"],.t [.s "told",.s "p",.s "v"],.t [.s "told",.s (bif b then"n" else""),.s "e"]]
def Gk(b:Bool):List Str:=bif b then["z","{v}z",mD]else["z","{v}z"]
def Gn(sa:Addr)(c:Cf)(ky:Nat):Loc:=[("script",.f sa),("xml",.s eG),("strip",.b c.st),("rewriting",.b c.rw),("comments",.b c.cm),("blind",.b c.bl),("bare",.b c.ba),("keys",.r ky)]
def Gm(sa:Addr)(c:Cf)(ky gn lo:Nat):Loc:=[("script",.f sa),("xml",.s eG),("strip",.b c.st),("rewriting",.b c.rw),("comments",.b c.cm),("blind",.b c.bl),("bare",.b c.ba),("keys",.r ky),("gone",.r gn),("lost",.r lo)]
def Ad(sa:Addr)(c:Cf)(ky gn lo td:Nat):Loc:=[("script",.f sa),("xml",.s eG),("strip",.b c.st),("rewriting",.b c.rw),("comments",.b c.cm),("blind",.b c.bl),("bare",.b c.ba),("keys",.r ky),("gone",.r gn),("lost",.r lo),("told",.r td)]
set_option backward.match.sparseCases false in
noncomputable def Bp(O:Sc):Expr->Bool
 |.Name y _=>O.lookup y==some .cell
 |_=>false
theorem Vh(N:iZ cx T O):∀{ts:List Expr},ts.any (Bp O)=true->((ts.filterMap (nameIn T line)).length==ts.length)=false:=by
 have key:∀{ts:List Expr},ts.any (Bp O)=true->(ts.filterMap (nameIn T line)).length<ts.length:=by
  intro ts
  induction ts with
  |nil=>exact iC
  |cons t ts ih=>
   intro h;rcases Nat.lt_or_ge _ (t::ts).length with g|g
   ·exact g
   rcases(Bool.or_eq_true _ _).mp ()with h|h
   ·have:nameIn T line t=none:=by
     cases t with
     |Name y p=>
      exact if_neg (by rw[(N.kind' (beq_iff_eq.mp h) ())];exact Bool.false_ne_true)
     |_=>rfl
    rw[List.filterMap_cons_none this];exact Nat.lt_succ_of_le (List.length_filterMap_le ..)
   ·have a:=ih h;cases hn:nameIn T line t with
    |none=>rw[List.filterMap_cons_none hn];exact Nat.lt_succ_of_lt a
    |some w=>rw[List.filterMap_cons_some hn];exact Nat.succ_lt_succ a
 exact λts h=>beq_eq_false_iff_ne.mpr (aY (key h))
theorem Hv(N:iZ cx T O){vs:List Expr}{b c:Nat}{p q:Pos}(h:ts.any (Bp O)=true):swappedStores [.Tuple ts b p] (.Tuple vs c q) T=pure none:=by
 show(if(!(ts.length==2||ts.length==3)||vs.length !=ts.length||T.blockKind !=.function)=true then pure none else if vs.any _=true then pure none else if(((ts.filterMap (nameIn T _)).length !=ts.length)||_)=true then pure none else _)=_;by_cases h1:(!(ts.length==2||ts.length==3)||vs.length !=ts.length||T.blockKind !=.function)=true
 ·exact if_pos h1
 refine(if_neg h1).trans ?_;by_cases a:(vs.any λ|.Starred ..=>true|_=>false)=true
 ·exact if_pos a
 refine(if_neg a).trans (if_pos ?_);unfold bne;rw[Vh N h];rfl
theorem Xb{n:Nat}{u:V}{vs:List Expr}{b c:Nat}{p q:Pos}(e:ts.any (Bp O)=true)(h1:GE cx n O J (.Tuple vs c q) H u H1)(d:VB cx n O [.Tuple ts b p] u J H1 dI H2):GX cx (n+1) O (.Assign [.Tuple ts b p] (.Tuple vs c q) pos) J H .next dI H2:=λA T W s Q E C g=>by
 refine aj (aW (aj (bH () ?_)));exact aj (h1 C.low λu s1 gw a r1=>aj (bH (Hv C.en e) (aj (d (C.low.step a) r1 λs2 je f X2=>ak (g _ _ _ (dJ.vp a.zq (C.vars.step C.inv a) f) X2 .next)))))
theorem PX.afM{n:Nat}{st:Stmt}{bs:List Stmt}{v:Pl->V}{l1:Pl->LH}{t a:Expr}(h:∃ts vs b p c q pos,t=.Tuple ts b p/\a=.Tuple vs c q/\st=.Assign [t] a pos/\ts.any (Bp O)=true)(h1:EE pe n O J a L v l1){mH:Pl->Loc}(d:∀{cx} x H,VB cx n O [t] (v x) J H (mH x) H):PX pe (n+1) O (st::bs) bs J L mH l1:=λU P H i=>by
 obtain⟨ts,vs,b,p,c,q,pos,rfl,rfl,rfl,f⟩:=h;obtain⟨x,H1,e,t1⟩:=h1 P H i;exact⟨x,H1,t1,λU U U g=>d7 (Xb f e (d x H1)) g⟩
def lm5:5<=lim:=fM rfl
def lm3:3<=lim:=fM rfl
def lm2:2<=lim:=fM rfl
def r5:(0:Int)<=5/\(5:Int)<100000:=()
def xl1:("{":Str).length+eG.length<=lim:=fM rfl
def xl2:("{"++eG:Str).length+("}space":Str).length<=lim:=fM rfl
def zy(l:List Int):(intsOf (l.map V.i)).map (λl=>V.i l.sum)=some (.i l.sum):=by
 rw[Dy];rfl
def LK:(dK Y).lst Y.sa=some Y.is:=if_pos rfl
theorem Bg(Y:Z)(R:LH)(k:Int){l:List Int}(hl:jN (Y.is.map .i) none (some 1) none=l.map .i){e:Expr}(a:∃p1 p2 p3 p4 j,e=.Subscript (.Name "script" p1) (.Slice none (some (.Constant (.int 1) j p2)) none p3) p4):EE (dK Y) 30 (V6 Y) (Ip Y.sa k) e ([]++R) (λx=>.r (x 0)) (λx=>[(x 0,.l (l.map .i))]++R):=λU P H b=>by
 obtain⟨p1,p2,p3,p4,j,rfl⟩:=a;exact⟨λU=>H.n,_,sY P (iJ P rfl) oW (xQ (n7 rfl)) oW (.lst LK () (by rw[hl])),Tp.new b⟩
def Bh(Y:Z):∃p1 p2 p3 p4 j,eS Y=.Subscript (.Name "script" p1) (.Slice none (some (.Constant (.int 1) j p2)) none p3) p4:=⟨_,_,_,_,_,rfl⟩
def aeS:EE (dK Y) 40 (dZ Y 195) (J) (Qq (eF Y)) ([]++R) (λnw=>.g 5) (λnw=>[]++R):=EE.go [.keep []] (λU f=>a (r5)<|f (λU=>0))
def ae0(hl:jN (Y.is.map .i) none (some 1) none=l.map .i):EE (dK Y) 40 (V6 Y) (Ip Y.sa 0) ((px (eF Y)).1) ([]++R) (λnw=>.b (pC l 0)) (λnw=>[]++R):=EE.go [.call 30 [] (λU x=>.r (x 0)) (λU x=>[(x 0,.l (l.map .i))]) (λU U=>R),n 0,.val λU=>.i l.sum,.keep []] (λU f=>a (Bg Y R 0 hl (Bh Y))<|λ(c:Pl)=>a (e (c 0))<|a (zy l)<|f (λU=>0))
def aeZ(hl:jN (Y.is.map .i) none (some 1) none=l.map .i):EE (dK Y) 40 (V6 Y) (Ip Y.sa 1) ((px (eF Y)).1) ([]++R) (λnw=>.b (pC l 1)) (λnw=>[]++R):=EE.go [.call 30 [] (λU x=>.r (x 0)) (λU x=>[(x 0,.l (l.map .i))]) (λU U=>R),n 0,.val λU=>.i l.sum,.keep []] (λU f=>a (Bg Y R 1 hl (Bh Y))<|λ(c:Pl)=>a (e (c 0))<|a (zy l)<|f (λU=>0))
def aeY(hl:jN (Y.is.map .i) none (some 1) none=l.map .i):EE (dK Y) 40 (V6 Y) (Ip Y.sa 2) ((px (eF Y)).1) ([]++R) (λnw=>.b (pC l 2)) (λnw=>[]++R):=EE.go [.call 30 [] (λU x=>.r (x 0)) (λU x=>[(x 0,.l (l.map .i))]) (λU U=>R),n 0,.val λU=>.i l.sum,.keep []] (λU f=>a (Bg Y R 2 hl (Bh Y))<|λ(c:Pl)=>a (e (c 0))<|a (zy l)<|f ())
def aeX(hl:jN (Y.is.map .i) none (some 1) none=l.map .i):EE (dK Y) 40 (V6 Y) (Ip Y.sa 3) ((px (eF Y)).1) ([]++R) (λnw=>.b (pC l 3)) (λnw=>[]++R):=EE.go [.call 30 [] (λU x=>.r (x 0)) (λU x=>[(x 0,.l (l.map .i))]) (λU U=>R),n 0,.val λU=>.i l.sum,.keep []] (λU f=>a (Bg Y R 3 hl (Bh Y))<|λ(c:Pl)=>a (e (c 0))<|a (zy l)<|f ())
def aeW(hl:jN (Y.is.map .i) none (some 1) none=l.map .i):EE (dK Y) 40 (V6 Y) (Ip Y.sa 4) ((px (eF Y)).1) ([]++R) (λnw=>.b (pC l 4)) (λnw=>[]++R):=EE.go [.call 30 [] (λU x=>.r (x 0)) (λU x=>[(x 0,.l (l.map .i))]) (λU U=>R),n 0,.val λU=>.i l.sum,.keep []] (λU f=>a (Bg Y R 4 hl (Bh Y))<|λ(c:Pl)=>a (e (c 0))<|a (zy l)<|f (λU=>0))
theorem aii(Y:Z)(R:LH)(hl:jN (Y.is.map .i) none (some 1) none=l.map .i):EC (dK Y) 41 (dZ Y 195) ([("script",.f Y.sa),("xml",.s eG)]:Loc) (eF Y) R (λz=>.r (z 0)) (λz=>[(z 0,.l [.b (pC l 0),.b (pC l 1),.b (pC l 2),.b (pC l 3),.b (pC l 4)])]++R):=by
 have a:CT (dK Y) 40 (V6 Y) _ [] (Px (eF Y)) [] _ (around (V6 Y) ([("script",.f Y.sa),("xml",.s eG)]:Loc)) R (λU=>[.b (pC l 0),.b (pC l 1),.b (pC l 2),.b (pC l 3),.b (pC l 4)]) (λU=>R):=
  CT.cons (f:=[_]) (λU U=>rfl) EY.nil (BK.el (ae0 (R:=R) hl)) (CT.cons (f:=[_]) (λU U=>rfl) EY.nil (BK.el (aeZ (R:=R) hl)) (CT.cons (f:=[_]) (λU U=>rfl) EY.nil (BK.el (aeY (R:=R) hl)) (CT.cons (f:=[_]) (λU U=>rfl) EY.nil (BK.el (aeX (R:=R) hl)) (CT.cons (f:=[_]) (λU U=>rfl) EY.nil (BK.el (aeW (R:=R) hl)) CT.nil))))
 have key:EC (dK Y) 41 (dZ Y 195) _ (eF Y) R _ _:=
  EC.lc rfl rfl (.val (v:=.g 5) (λU=>rfl) aeS) rfl a (fM rfl)
 exact key.perm (.refl _) λz=>by rw[aX];exact .refl _
theorem ahy(hl:jN (Y.is.map .i) none (some 1) none=l.map .i):PX (dK Y) 147 (dZ Y 195) (fW Y) ((fW Y).drop 3) ([("script",.f Y.sa)]) ([]++R) (λnw=>Gn Y.sa ⟨pC l 0,pC l 1,pC l 2,pC l 3,pC l 4⟩ (nw 0)) (λnw=>[(nw 0,.l gj)]++R):=PX.go 3 [.call 41 [] (λU z=>.r (z 0)) (λU z=>[(z 0,.l [.b (pC l 0),.b (pC l 1),.b (pC l 2),.b (pC l 3),.b (pC l 4)])]) (λU U=>R),n 0,.keep [1]] (λU f=>a (aii Y R hl)<|λ(d:Pl)=>a (e (d 0))<|a (xl1)<|a (xl2)<|λc=>f (λU=>c))
def ae3(h:c.bl=true):EE (dK Y) 146 (dZ Y 195) (Gn Y.sa c ky) ((sO (fW Y)[3]?).1) ([(ky,.l gj)]++R) (λnw=>.t [.r (nw 0),.r (nw 1)]) (λnw=>[(ky,.l gj),(nw 0,.l (g8.map .s)),(nw 1,.l ((Gk true).map .s))]++R):=EE.go [n 0,.n 1,n 0,n 2,n 3,.keep [0,1,4]] (λU f=>λd=>dH ky<|a (lm5)<|λb=>a (h)<|dH ky<|a (lm5)<|λm2=>dH b<|dH m2<|a (lm3)<|λe=>f (Qi [d,e]))
def adB(h:c.ba=true):PX (dK Y) 147 (dZ Y 195) ((fW Y).drop 4) (((fW Y).drop 4).drop 1) (Gm Y.sa c ky gn lo) ([]++R) (λnw=>Ad Y.sa c ky gn lo (nw 0)) (λnw=>[(nw 0,.l (eZ true))]++R):=PX.go 1 [.n 1,.keep [0]] (λU f=>a (h)<|λb=>f (λU=>b))
def ae4(h:c.bl=false):EE (dK Y) 146 (dZ Y 195) (Gn Y.sa c ky) ((sO (fW Y)[3]?).1) ([(ky,.l gj)]++R) (λnw=>.t [.r (nw 0),.r (nw 1)]) (λnw=>[(ky,.l gj),(nw 0,.l (g8.map .s)),(nw 1,.l ((Gk false).map .s))]++R):=EE.go [n 0,.n 2,n 2,n 3,.keep [0,1,4]] (λU f=>λd=>dH ky<|a (lm5)<|λb=>a (h)<|λm2=>dH b<|dH m2<|a (lm2)<|λe=>f (Qi [d,e]))
def adC(h:c.ba=false):PX (dK Y) 147 (dZ Y 195) ((fW Y).drop 4) (((fW Y).drop 4).drop 1) (Gm Y.sa c ky gn lo) ([]++R) (λnw=>Ad Y.sa c ky gn lo (nw 0)) (λnw=>[(nw 0,.l (eZ false))]++R):=PX.go 1 [.n 2,.keep [0]] (λU f=>a (h)<|λb=>f (λU=>b))
theorem ahx:PX (dK Y) 147 (dZ Y 195) ((fW Y).drop 3) ((fW Y).drop 4) (Gn Y.sa c ky) ([(ky,.l gj)]++R) (λnw=>Gm Y.sa c ky (nw 0) (nw 1)) (λnw=>[(ky,.l gj),(nw 0,.l (g8.map .s)),(nw 1,.l ((Gk c.bl).map .s))]++R):=by
 cases h:c.bl with
 |true=>
  exact PX.afM (t:=tx3 Y) (a:=(sO (fW Y)[3]?).1) (bs:=(fW Y).drop 4) ⟨_,_,_,_,_,_,_,rfl,rfl,rfl,rfl⟩ (ae3 h) λx H=>nG rfl (s8 rfl rfl)
 |false=>
  exact PX.afM (t:=tx3 Y) (a:=(sO (fW Y)[3]?).1) (bs:=(fW Y).drop 4) ⟨_,_,_,_,_,_,_,rfl,rfl,rfl,rfl⟩ (ae4 h) λx H=>nG rfl (s8 rfl rfl)
def ahw:PX (dK Y) 147 (dZ Y 195) ((fW Y).drop 4) ((fW Y).drop 5) (Gm Y.sa c ky gn lo) R (λnw=>Ad Y.sa c ky gn lo (nw 0)) (λnw=>(nw 0,.l (eZ c.ba))::R):=by
 cases h:c.ba with
 |true=>exact adB h
 |false=>exact adC h
end
section
open To
variable {R:LH}
def Zn(sa:Addr)(c:Cf)(ky gn lo td ev:Nat):Loc:=[("script",.f sa),("xml",.s eG),("strip",.b c.st),("rewriting",.b c.rw),("comments",.b c.cm),("blind",.b c.bl),("bare",.b c.ba),("keys",.r ky),("gone",.r gn),("lost",.r lo),("told",.r td),("events",.r ev)]
set_option backward.match.sparseCases false in
def opR:Expr->Expr
 |.BinOp _ _ b _=>b
 |_=>e0
set_option backward.match.sparseCases false in
def arg2:Expr->Expr
 |.Call _ (_::b::_) _ _=>b
 |_=>e0
def aap(h:c.ba=true):EE (dK Y) 140 (dZ Y 195) (Ad Y.sa c ky gn lo td) (arg2 (opR (sO (fW Y)[5]?).1)) ([]++R) (λnw=>.r (nw 0)) (λnw=>[(nw 0,.l ((tE true).map .s))]++R):=EE.go [.n 1,.keep [0]] (λU f=>a (h)<|λb=>f (λU=>b))
def aaq(h:c.ba=false):EE (dK Y) 140 (dZ Y 195) (Ad Y.sa c ky gn lo td) (arg2 (opR (sO (fW Y)[5]?).1)) ([]++R) (λnw=>.r (nw 0)) (λnw=>[(nw 0,.l ((tE false).map .s))]++R):=EE.go [.n 2,.keep [0]] (λU f=>a (h)<|λb=>f (λU=>b))
def aeQ:EE (dK Y) 140 (dZ Y 195) (Ad Y.sa c ky gn lo td) (arg2 (opR (sO (fW Y)[5]?).1)) R (λnw=>.r (nw 0)) (λnw=>(nw 0,.l ((tE c.ba).map .s))::R):=by
 cases h:c.ba with
 |true=>exact aap h
 |false=>exact aaq h
theorem Bk(is:List Int)(lo hi st:Option Int):∃l:List Int,jN (is.map .i) lo hi st=l.map .i/\l.length<=(sliceRange (sliceBounds lo hi st is.length).1 (sliceBounds lo hi st is.length).2.1 (sliceBounds lo hi st is.length).2.2).length:=by
 unfold jN;rw[aB];generalize sliceRange (sliceBounds lo hi st is.length).1 (sliceBounds lo hi st is.length).2.1 (sliceBounds lo hi st is.length).2.2=js;refine⟨js.filterMap (is[·]?),?_,List.length_filterMap_le _ _⟩;rw[List.map_filterMap];congr 1
 funext j
 rw[bW]
def Vb:∀n<64,(sliceRange (sliceBounds (some 1) none none n).1 (sliceBounds (some 1) none none n).2.1 (sliceBounds (some 1) none none n).2.2).length<=n:=by decide+kernel
def ach(Y:Z):∃p1 p2 p3 p4 p5 p6 p7 p8 p9 Qk a j,(fW Y).drop 5=.Assign [.Name "events" p1] (.BinOp (.Name "told" p2) .Add (.Call (.Name "_law_events" p3) [.Subscript (.Name "script" p4) (.Slice (some (.Constant (.int 1) j p5)) none none p6) p7,arg2 (opR (sO (fW Y)[5]?).1),.Name "keys" p8] [] p9) Qk) a::(fW Y).drop 6:=⟨_,_,_,_,_,_,_,_,_,_,_,_,rfl⟩
theorem ahv(Y:Z)(R:LH)(c:Cf)(hl:Y.is.length<=63):PQ (dK Y) 147 (dZ Y 195) ((fW Y).drop 5) ((fW Y).drop 6) (Ad Y.sa c ky gn lo td) ([(ky,.l gj),(td,.l (eZ c.ba))]++R) λJ l=>∃ev evs,EvF evs/\J=Zn Y.sa c ky gn lo td ev/\l=[(ky,.l gj),(td,.l (eZ c.ba)),(ev,.l (eZ c.ba++evs.map gP))]++(iK evs++R):=λcx P H y=>by
 obtain⟨p1,p2,p3,p4,p5,p6,p7,p8,p9,Qk,h,j,w⟩:=ach Y;obtain⟨xs,z,b⟩:=(by
  obtain⟨l2,d,a⟩:=Bk Y.is (some 1) none none;exact⟨l2,d,aK (aK a (Vb _ (Nat.lt_succ_of_le hl))) hl⟩);have t1:Tp H ([(ky,.l gj),(td,.l (eZ c.ba))]++R) (H.alloc (.l (xs.map .i))) ((H.n,.l (xs.map .i))::([(ky,.l gj),(td,.l (eZ c.ba))]++R)):=Tp.new y;obtain⟨x,H2,u,t2⟩:=aeQ (Y:=Y) (c:=c) (ky:=ky) (gn:=gn) (lo:=lo) (td:=td) P _ t1.has;have hp:([(H.n,dN.l (xs.map .i)),(x 0,.l ((tE c.ba).map .s)),(ky,.l gj)]++((td,.l (eZ c.ba))::R)).Perm ((x 0,.l ((tE c.ba).map .s))::((H.n,.l (xs.map .i))::([(ky,.l gj),(td,.l (eZ c.ba))]++R))):=List.Perm.swap ..;obtain⟨v,l',H3,⟨p,evs,rfl,k,rfl⟩,r,a⟩:=afD Y ((td,.l (eZ c.ba))::R) H.n (x 0) ky c.ba b P H2 (t2.has.to hp);have f1:H3.f td=.l (eZ c.ba):=(a.has.el (td,_) (aG _ (aG _ (.head _)))).2;have f2:H3.f p=.l (evs.map gP):=(a.has.el (p,_) (.tail _ (.head _))).2;have d:(eZ c.ba).length+(evs.map gP).length<=lim:=by
  rw[aB];exact aK (cM k.len 3) (fM rfl)
 have m:Tp H3 _ (H3.alloc (.l (eZ c.ba++evs.map gP))) _:=Tp.new a.has;have t:GX cx 147 (dZ Y 195) (.Assign [.Name "events" p1] (.BinOp (.Name "told" p2) .Add (.Call (.Name "_law_events" p3) [.Subscript (.Name "script" p4) (.Slice (some (.Constant (.int 1) j p5)) none none p6) p7,arg2 (opR (sO (fW Y)[5]?).1),.Name "keys" p8] [] p9) Qk) h) (Ad Y.sa c ky gn lo td) H .next (Zn Y.sa c ky gn lo td H3.n) (H3.alloc (.l (eZ c.ba++evs.map gP))):=
  VG rfl (λU=>rfl) (WX (iJ P rfl) (G6 P (g:=.f 190) (by kernel_rfl) (by kernel_rfl) (m7 rfl (sY P (iJ P rfl) (xQ (n7 rfl)) oW oW (.lst LK () (by rw[z]))) (m7 rfl (ud () u) (m7 rfl (iJ P rfl) wG))) Aq (Di () r)) (.iG f1 f2 d rfl)) (nG rfl (vd rfl))
 have q:((H3.n,dN.l (eZ c.ba++evs.map gP))::(ky,dN.l gj)::(iK evs++((td,.l (eZ c.ba))::R))).Sublist ((H3.n,dN.l (eZ c.ba++evs.map gP))::([(ky,.l gj),(p,.l (evs.map gP))]++(iK evs++((td,.l (eZ c.ba))::R)))):=.cons_cons _ (.cons_cons _ (.cons _ (.refl _)));have o:((ky,dN.l gj)::(td,.l (eZ c.ba))::(H3.n,.l (eZ c.ba++evs.map gP))::(iK evs++R)).Perm ((H3.n,dN.l (eZ c.ba++evs.map gP))::(ky,dN.l gj)::(iK evs++((td,.l (eZ c.ba))::R))):=
  (List.Perm.cons _ ((List.Perm.swap ..).trans (.cons _ List.perm_middle.symm))).trans (List.Perm.swap ..)
 exact⟨_,_,_,⟨H3.n,evs,k,rfl,rfl⟩,((((t1.trans t2).to hp).trans a).trans m |>.sub q).to o,λfl dI H' e=>w▸d7 t e⟩
end
section
open To
variable {R:LH} {s:S5}
def Ae(sa:Addr)(c:Cf)(ky gn lo td ev hd kp ca:Nat)(q:Q):Loc:=[("script",.f sa),("xml",.s eG),("strip",.b c.st),("rewriting",.b c.rw),("comments",.b c.cm),("blind",.b c.bl),("bare",.b c.ba),("keys",.r ky),("gone",.r gn),("lost",.r lo),("told",.r td),("events",.r ev),("out",.r q.o),("hidden",.r hd),("kept",.r kp),("target",.r q.i),("calls",.r ca)]
noncomputable def gk(q:Q):List (Str×V):=[("told",.m 106 (.r q.i)),("pi",.m 140 (.r q.i)),("end",.m 126 (.r q.i)),("data",.m 90 (.r q.i)),("comment",.m 133 (.r q.i))]
noncomputable def plX(l:List Nat)(x:Pl):Pl:=λk=>bif Nat.blt k 4 then l.getD k 0 else x (k-4)
def qX(x:Pl):Q:=qN (x 3) λk=>x (k+4)
def sX(c:Cf)(x:Pl):S5:=S5.i0 (xT c λk=>x (k+4)) (x 13) (x 14)
def glL(c:Cf)(gn lo:Nat):LH:=[(gn,.l (g8.map .s)),(lo,.l (c.fj.map .s))]
def nd5:(["told","pi","end","data","comment"]:List Str).Nodup:=()
theorem Ss(Y:Z)(c:Cf)(o gn lo:Nat)(R:LH):CC (dK Y) 61 (.f 143) [.k .jh (.r o)] [("strip_text",.b c.st),("rewrite_prefixes",.b c.rw),("with_comments",.b c.cm),("exclude_tags",.r gn),("exclude_attrs",.r lo)] ([(0,.t 116 fP),(gn,.l (g8.map .s)),(lo,.l (c.fj.map .s)),(o,.l [])]++R) (λx=>.r (x 0)) (λx=>tI2 c (qN o x) (xT c x) (x 9) (x 10)++glL c gn lo++(Df c x++R)):=by
 refine ZZ.perm (Zj Y c o lo gn R) ?_ λx=>?_
 exact .cons _ (((cG (l₁:=[(gn,dN.l _),(lo,.l _)])).trans (.cons _ (.swap ..))))
 rw[aQ];exact List.Perm.append_left _ (List.Perm.trans (List.Perm.append_right _ (.swap ..)) (List.perm_append_comm_assoc _ _ _))
theorem ahu:PX (dK Y) 147 (dZ Y 195) ((fW Y).drop 6) (((fW Y).drop 6).drop 4) (Zn Y.sa c ky gn lo td ev) ([(0,.t 116 fP),(gn,.l (g8.map .s)),(lo,.l (c.fj.map .s))]++R) (λnw=>Ae Y.sa c ky gn lo td ev (nw 0) (nw 1) (nw 2) (qX nw)) (λnw=>tg c (qX nw) (sX c nw)++glL c gn lo++[(nw 0,.l []),(nw 1,.l []),(nw 2,.d (gk (qX nw)))]++(Df c (λk=>nw (k+4))++R)):=PX.go 4 [n 3,.call 61 [0,1,2,3] (λq x=>.r (x 0)) (λq x=>tI2 c (qN (q 3) x) (xT c x) (x 9) (x 10)++glL c gn lo) (λU x=>Df c x++R),n 1,n 1,n 1,n 1,n 1,n 1,.uD [0,1,2,3,6,7,8,9,10,11,12,13,14,15,16] [0,1,2]] (λU f=>λg=>λi=>λm2=>dH g<|a (Ss Y c g gn lo R)<|λb=>a (e (b 0))<|a (e (b 1))<|a (e (b 0))<|a (e (b 1))<|a (e (b 0))<|a (e (b 1))<|a (e (b 0))<|a (e (b 1))<|a (e (b 0))<|a (e (b 1))<|a (e (b 0))<|a (e (b 1))<|a (nd5)<|λh=>f (plX [i,m2,h,g] b))
end
section
open To
variable {R:LH} {s:S5}
abbrev jV(Y:Z):List Stmt:=gJ (fW Y)[10]?
def mJ(sa:Addr)(c:Cf)(ky gn lo td ev hd kp ca:Nat)(q:Q)(kd w m:V):Loc:=[("script",.f sa),("xml",.s eG),("strip",.b c.st),("rewriting",.b c.rw),("comments",.b c.cm),("blind",.b c.bl),("bare",.b c.ba),("keys",.r ky),("gone",.r gn),("lost",.r lo),("told",.r td),("events",.r ev),("out",.r q.o),("hidden",.r hd),("kept",.r kp),("target",.r q.i),("calls",.r ca),("kind",kd),("what",w),("more",m)]
def xO(kvs:List (Str×V)):List V:=jN (kvs.map λp=>V.t [.s p.1,p.2]) none none (some (-1))
def Zh{l:List (Str×V)}(h:l.length<=1000):(l.map λp=>V.t [.s p.1,p.2]).length<=lim:=by rw[aB];exact aK h ()
def fZ(l:List Bool):boolsOf (l.map .b)=some l:=by
 induction l with
 |nil=>rfl
 |cons x l ih=>show(boolsOf _).map (x::·)=_;rw[ih];rfl
def YS(h:b=true):(!b)=false:=by rw[h];rfl
def Dc(h:b=false):(!b)=true:=by rw[h];rfl
theorem acy{hd kp:Nat}(h1:kvs.length<=1000)(g:(xO kvs).all I3=true/\(xO kvs).length<=1000)(h3:(hl.map V.b).length<lim)(h:∀e,CC (dK Y) 91 (.m 113 (.r q.i)) [.s t,.r e] [] (tg c q s++[(e,.d (iu (xO kvs)))]++R) (λU=>.n) (λx=>[]++R2 x)):PX (dK Y) 146 (dZ Y 195) (jV Y) ((jV Y).drop 1) (mJ Y.sa c ky gn lo td ev hd kp ca q (.s "start") (.s t) (.r m)) (tg c q s++[(m,.d kvs),(gn,.l (g8.map .s)),(hd,.l (hl.map .b))]++R) (λnw=>mJ Y.sa c ky gn lo td ev hd kp ca q (.s "start") (.s t) (.r m)) (λnw=>[(m,.d kvs),(gn,.l (g8.map .s)),(hd,.l (hl.map .b++[.b (g8.contains t)]))]++R2 nw):=PX.go 1 [n 0,n 1,n 13,n 13,n 16,n 17,.call 91 (List.range 13++[18]) (λU U=>.n) (λU U=>[]) (λU x=>R2 x),n 2,n 1,.n 0,.keep [0,1,2]] (λU f=>dW q<|dH m<|dH m<|dH m<|a (h1)<|λk=>dH k<|a (Zh h1)<|λe=>dH e<|a (g)<|λm2=>a (h m2)<|λj=>dH hd<|dH gn<|dH hd<|a (h3)<|f (j))
theorem Ru{hd kp:Nat}(h:CC (dK Y) 41 (.m 106 (.r q.i)) [.s p,.s u] [] ([]++R) (λU=>.n) (λx=>[]++R2 x)):PX (dK Y) 146 (dZ Y 195) (jV Y) ((jV Y).drop 1) (mJ Y.sa c ky gn lo td ev hd kp ca q (.s "told") (.s p) (.s u)) ([(ca,.d (gk q))]++R) (λnw=>mJ Y.sa c ky gn lo td ev hd kp ca q (.s "told") (.s p) (.s u)) (λnw=>[(ca,.d (gk q))]++R2 nw):=PX.go 1 [n 0,n 1,.n 0,n 0,n 0,.n 0,.call 41 [] (λU U=>.n) (λU U=>[]) (λU x=>R2 x),.keep [0]] (λU f=>λe=>dH e<|dH ca<|a (h)<|λb=>f (b))
theorem acz{hd kp:Nat}(h:CC (dK Y) 46 (.m 140 (.r q.i)) [.s p,v] [] ([]++R) (λU=>.n) (λx=>[]++R2 x)):PX (dK Y) 146 (dZ Y 195) (jV Y) ((jV Y).drop 1) (mJ Y.sa c ky gn lo td ev hd kp ca q (.s "pi") (.s p) v) ([(ca,.d (gk q))]++R) (λnw=>mJ Y.sa c ky gn lo td ev hd kp ca q (.s "pi") (.s p) v) (λnw=>[(ca,.d (gk q))]++R2 nw):=PX.go 1 [n 0,n 1,.n 0,n 0,n 0,.n 0,.call 46 [] (λU U=>.n) (λU U=>[]) (λU x=>R2 x),.keep [0]] (λU f=>λe=>dH e<|dH ca<|a (h)<|λb=>f (b))
theorem Yo{hd kp:Nat}(h:CC (dK Y) 91 (.m 126 (.r q.i)) [.s p] [] ([]++R) (λU=>.n) (λx=>[]++R2 x)):PX (dK Y) 146 (dZ Y 195) (jV Y) ((jV Y).drop 1) (mJ Y.sa c ky gn lo td ev hd kp ca q (.s "end") (.s p) v) ([(ca,.d (gk q))]++R) (λnw=>mJ Y.sa c ky gn lo td ev hd kp ca q (.s "end") (.s p) v) (λnw=>[(ca,.d (gk q))]++R2 nw):=PX.go 1 [n 0,n 1,.n 0,n 0,n 0,.n 0,.call 91 [] (λU U=>.n) (λU U=>[]) (λU x=>R2 x),.keep [0]] (λU f=>λe=>dH e<|dH ca<|a (h)<|λb=>f (b))
theorem Yp{hd kp:Nat}(h:CC (dK Y) 31 (.m 90 (.r q.i)) [.s p] [] ([]++R) (λU=>.n) (λx=>[]++R2 x)):PX (dK Y) 146 (dZ Y 195) (jV Y) ((jV Y).drop 1) (mJ Y.sa c ky gn lo td ev hd kp ca q (.s "data") (.s p) v) ([(ca,.d (gk q))]++R) (λnw=>mJ Y.sa c ky gn lo td ev hd kp ca q (.s "data") (.s p) v) (λnw=>[(ca,.d (gk q))]++R2 nw):=PX.go 1 [n 0,n 1,.n 0,n 0,n 0,.n 0,.call 31 [] (λU U=>.n) (λU U=>[]) (λU x=>R2 x),.keep [0]] (λU f=>λe=>dH e<|dH ca<|a (h)<|λb=>f (b))
theorem Yq{hd kp:Nat}(h:CC (dK Y) 46 (.m 133 (.r q.i)) [.s p] [] ([]++R) (λU=>.n) (λx=>[]++R2 x)):PX (dK Y) 146 (dZ Y 195) (jV Y) ((jV Y).drop 1) (mJ Y.sa c ky gn lo td ev hd kp ca q (.s "comment") (.s p) v) ([(ca,.d (gk q))]++R) (λnw=>mJ Y.sa c ky gn lo td ev hd kp ca q (.s "comment") (.s p) v) (λnw=>[(ca,.d (gk q))]++R2 nw):=PX.go 1 [n 0,n 1,.n 0,n 0,n 0,.n 0,.call 46 [] (λU U=>.n) (λU U=>[]) (λU x=>R2 x),.keep [0]] (λU f=>λe=>dH e<|dH ca<|a (h)<|λb=>f (b))
theorem agS{hd kp:Nat}{w m:V}(h:hl.contains true=true):PX (dK Y) 146 (dZ Y 195) ((jV Y).drop 1) (((jV Y).drop 1).drop 1) (mJ Y.sa c ky gn lo td ev hd kp ca q (.s kd) w m) ([(hd,.l (hl.map .b)),(kp,.l xs)]++R) (λnw=>mJ Y.sa c ky gn lo td ev hd kp ca q (.s kd) w m) (λnw=>[(hd,.l (hl.map .b)),(kp,.l xs)]++R):=PX.go 1 [n 0,.bools hl,.n 2,n 0,.bools hl,.n 2,.keep [0,1]] (λU f=>dH hd<|a (fZ hl)<|a (YS h)<|dH hd<|a (fZ hl)<|a (YS h)<|f (λU=>0))
theorem acu{hd kp:Nat}{w m:V}(h:hl.contains true=false)(h1:(kd=="data")=false)(hc:c.cm=true)(d:xs.length<lim):PX (dK Y) 146 (dZ Y 195) ((jV Y).drop 1) (((jV Y).drop 1).drop 1) (mJ Y.sa c ky gn lo td ev hd kp ca q (.s kd) w m) ([(hd,.l (hl.map .b)),(kp,.l xs)]++R) (λnw=>mJ Y.sa c ky gn lo td ev hd kp ca q (.s kd) w m) (λnw=>[(hd,.l (hl.map .b)),(kp,.l (xs++[.t [.s kd,w,m]]))]++R):=PX.go 1 [n 0,.bools hl,.n 1,.n 2,n 0,.bools hl,.n 1,.n 1,n 1,.keep [0,1]] (λU f=>dH hd<|a (fZ hl)<|a (Dc h)<|a (h1)<|dH hd<|a (fZ hl)<|a (Dc h)<|a (hc)<|dH kp<|dH kp<|a (d)<|f (λU=>0))
theorem acs{hd kp:Nat}{w m:V}(h:hl.contains true=false)(h1:(kd=="data")=false)(hc:c.cm=false)(e:(kd=="comment")=false)(d:xs.length<lim):PX (dK Y) 146 (dZ Y 195) ((jV Y).drop 1) (((jV Y).drop 1).drop 1) (mJ Y.sa c ky gn lo td ev hd kp ca q (.s kd) w m) ([(hd,.l (hl.map .b)),(kp,.l xs)]++R) (λnw=>mJ Y.sa c ky gn lo td ev hd kp ca q (.s kd) w m) (λnw=>[(hd,.l (hl.map .b)),(kp,.l (xs++[.t [.s kd,w,m]]))]++R):=PX.go 1 [n 0,.bools hl,.n 1,.n 2,n 0,.bools hl,.n 1,.n 2,.n 1,n 1,.keep [0,1]] (λU f=>dH hd<|a (fZ hl)<|a (Dc h)<|a (h1)<|dH hd<|a (fZ hl)<|a (Dc h)<|a (hc)<|a ((Dc e))<|dH kp<|dH kp<|a (d)<|f (λU=>0))
theorem agT{hd kp:Nat}{w m:V}(h:hl.contains true=false)(hc:c.cm=false):PX (dK Y) 146 (dZ Y 195) ((jV Y).drop 1) (((jV Y).drop 1).drop 1) (mJ Y.sa c ky gn lo td ev hd kp ca q (.s "comment") w m) ([(hd,.l (hl.map .b)),(kp,.l xs)]++R) (λnw=>mJ Y.sa c ky gn lo td ev hd kp ca q (.s "comment") w m) (λnw=>[(hd,.l (hl.map .b)),(kp,.l xs)]++R):=PX.go 1 [n 0,.bools hl,.n 1,n 0,n 0,.bools hl,.n 1,.n 2,n 0,.keep [0,1]] (λU f=>dH hd<|a (fZ hl)<|a (Dc h)<|dH hd<|a (fZ hl)<|a (Dc h)<|a (hc)<|f (λU=>0))
theorem acw{hd kp:Nat}{m:V}{k2:Str}(h:hl.contains true=false)(hk:atIdx xs (-1)=some (.t [.s k2,w2,m2]))(e:(k2=="data")=false)(hc:c.cm=true)(d:xs.length<lim):PX (dK Y) 146 (dZ Y 195) ((jV Y).drop 1) (((jV Y).drop 1).drop 1) (mJ Y.sa c ky gn lo td ev hd kp ca q (.s "data") (.s x) m) ([(hd,.l (hl.map .b)),(kp,.l xs)]++R) (λnw=>mJ Y.sa c ky gn lo td ev hd kp ca q (.s "data") (.s x) m) (λnw=>[(hd,.l (hl.map .b)),(kp,.l (xs++[.t [.s "data",.s x,m]]))]++R):=PX.go 1 [n 0,.bools hl,.n 1,n 0,n 1,.val λU=>.t [.s k2,w2,m2],.n 0,.n 2,n 0,.bools hl,.n 1,.n 1,n 1,.keep [0,1]] (λU f=>dH hd<|a (fZ hl)<|a (Dc h)<|dH kp<|a (hk)<|a (e)<|dH hd<|a (fZ hl)<|a (Dc h)<|a (hc)<|dH kp<|dH kp<|a (d)<|f (λU=>0))
theorem acv{hd kp:Nat}{m:V}{k2:Str}(h:hl.contains true=false)(hk:atIdx xs (-1)=some (.t [.s k2,w2,m2]))(e:(k2=="data")=false)(hc:c.cm=false)(d:xs.length<lim):PX (dK Y) 146 (dZ Y 195) ((jV Y).drop 1) (((jV Y).drop 1).drop 1) (mJ Y.sa c ky gn lo td ev hd kp ca q (.s "data") (.s x) m) ([(hd,.l (hl.map .b)),(kp,.l xs)]++R) (λnw=>mJ Y.sa c ky gn lo td ev hd kp ca q (.s "data") (.s x) m) (λnw=>[(hd,.l (hl.map .b)),(kp,.l (xs++[.t [.s "data",.s x,m]]))]++R):=PX.go 1 [n 0,.bools hl,.n 1,n 0,n 1,.val λU=>.t [.s k2,w2,m2],.n 0,.n 2,n 0,.bools hl,.n 1,.n 2,n 0,n 1,.keep [0,1]] (λU f=>dH hd<|a (fZ hl)<|a (Dc h)<|dH kp<|a (hk)<|a (e)<|dH hd<|a (fZ hl)<|a (Dc h)<|a (hc)<|dH kp<|dH kp<|a (d)<|f (λU=>0))
theorem agR{hd kp:Nat}{m:V}(h:hl.contains true=false)(hk:atIdx xs (-1)=some (.t [.s "data",.s y,m2]))(d:y.length+x.length<=lim)(e:xs≠[]/\xs.length<=lim):PX (dK Y) 146 (dZ Y 195) ((jV Y).drop 1) (((jV Y).drop 1).drop 1) (mJ Y.sa c ky gn lo td ev hd kp ca q (.s "data") (.s x) m) ([(hd,.l (hl.map .b)),(kp,.l xs)]++R) (λnw=>mJ Y.sa c ky gn lo td ev hd kp ca q (.s "data") (.s x) m) (λnw=>[(hd,.l (hl.map .b)),(kp,.l (xs.dropLast++[.t [.s "data",.s (y++x),.n]]))]++R):=PX.go 1 [n 0,.bools hl,.n 1,n 0,n 1,.val λU=>.t [.s "data",.s y,m2],.n 0,n 0,n 1,.val λU=>.t [.s "data",.s y,m2],.n 0,n 1,.keep [0,1]] (λU f=>dH hd<|a (fZ hl)<|a (Dc h)<|dH kp<|a (hk)<|dH kp<|a (hk)<|a (d)<|dH kp<|a (e)<|f (λU=>0))
def agQ{hd kp:Nat}{w m:V}(h:xs.length<=lim):PX (dK Y) 146 (dZ Y 195) ((jV Y).drop 2) (((jV Y).drop 2).drop 1) (mJ Y.sa c ky gn lo td ev hd kp ca q (.s "end") w m) ([(hd,.l xs)]++R) (λnw=>mJ Y.sa c ky gn lo td ev (nw 0) kp ca q (.s "end") w m) (λnw=>[(nw 0,.l (jN xs none (some (-1)) none))]++R):=PX.go 1 [n 0,n 0,.keep [1]] (λU f=>dH hd<|a (h)<|λb=>f (λU=>b))
def agP{hd kp:Nat}{w m:V}(h:(kd=="end")=false):PX (dK Y) 146 (dZ Y 195) ((jV Y).drop 2) (((jV Y).drop 2).drop 1) (mJ Y.sa c ky gn lo td ev hd kp ca q (.s kd) w m) ([]++R) (λnw=>mJ Y.sa c ky gn lo td ev hd kp ca q (.s kd) w m) (λnw=>[]++R):=PX.go 1 [.n 2,.keep []] (λU f=>a (h)<|f (λU=>0))
end
section
structure PR where
 t:N5
 f:Str
 N:List Str
 us:List Str
 pb:Bool
structure PS where
 due:Str
 seen:Bool
 path:List PR
 A:List Str
def dU(p:List PR):List Str:=p.flatMap (·.N)++[eG]
noncomputable def iD(p:List PR):Bool:=p.head?.elim false (·.pb)
def lg(c:Cf)(t:N5)(at':List (N5×Str)):List Str:=(["","e","u","v"]:List Str).filter λu=>(t.uri::(fY c at').map (·.1.uri)).contains u&&(!(u=="")||c.rw)
noncomputable def PS.mk'(p:PS)(m:Str):PS:={p with due:=p.due++(if p.path≠[]then m else if p.seen=true then"\n"++m else m++"\n")}
def sx(c:Cf)(p:PS)(t:N5)(at':List (N5×Str)):List Str×List Str:=gK c (dU p.path) (Gh c t at') ([],p.A)
def w7(f:Str)(l:List (Str×Str)):Str:="<"++f++cat (l.map atS)++">"
def PS.start(c:Cf)(p:PS)(t:N5)(at':List (N5×Str)):PS:=⟨p.due++w7 (gY c (sx c p t at').2 t.uri t.tag) (gR c (sx c p t at') (fY c at')),true,⟨t,gY c (sx c p t at').2 t.uri t.tag,(sx c p t at').1,lg c t at',V4 (iD p.path) ((dO (fY c at')).lookup mD)⟩::p.path,(sx c p t at').2⟩
noncomputable def nq(f:Str):Str:="</"++f++">"
def Bm(x:Str):Str:="<!--"++eV x++"-->"
def Qj(x:Option Str):Str:="<?t"++(x.elim cJ λy=>if y.length=0 then cJ else" "++eV y)++"?>"
def PS.step(c:Cf)(p:PS):E5->PS
 |.told _ _=>p
 |.start t _ at'=>p.start c t at'
 |.fin _=>p.path.head?.elim p λr=>{p with due:=p.due++nq r.f,path:=p.path.tail}
 |.com x=>p.mk' (Bm x)
 |.pi x=>p.mk' (Qj x)
 |.dat x=>if p.path=[]then p else{p with due:=p.due++eV (pZ c (iD p.path) x)}
structure Fm where
 r:PR
 lv:Nat
 nv:Nat
 np:List (Str×Str)
structure T5 where
 fs:List Fm
 A:List Str
 b:List (Str×Str)
 lv:Nat
 nv:Nat
 out:List Str
 da:List Str
 se:Bool
 dn:Bool
 ig:Nat
noncomputable abbrev T5.p(t:T5):List PR:=t.fs.map (·.r)
def BW(c:Cf)(A:List Str)(fs:List Fm):List V:=vA c A (fs.head?.elim [eG] (·.r.N))
noncomputable def Li(b:List (Str×Str))(fs:List Fm):List (Str×Str):=fs.head?.elim b (·.np)
def frs(c:Cf)(A:List Str)(b:List (Str×Str))(fs:List Fm):LH:=List.rec [] (λf fs ih=>(f.nv,.l ((Li b fs).map pv))::(f.lv,.l (BW c A fs))::ih) fs
def T5.s(t:T5)(c:Cf)(n0:List V):S5:=⟨t.out.map .s,t.da.map .s,(t.fs.map λf=>V.r f.lv).reverse,n0++(t.fs.map λf=>V.r f.nv).reverse,t.lv,t.nv,BW c t.A t.fs,(Li t.b t.fs).map pv,bif c.rw then nP t.A else[],.b false::(t.fs.map λf=>V.b f.r.pb).reverse,t.se,t.dn,t.ig⟩
abbrev T5.R(t:T5)(c:Cf):LH:=frs c t.A t.b t.fs
def t3(c:Cf):List (Str×Str):=[("u","q"),("v","p"),("e",pK c "e")]
def FOk(c:Cf)(A:List Str)(fs:List Fm):Prop:=List.rec True (λf fs ih=>(f.r.f=gY c A f.r.t.uri f.r.t.tag/\f.r.t∈iz/\¬ needs c (dU ((f::fs).map (·.r))) f.r.t.uri/\∀p∈f.np,p∈t3 c)/\ih) fs
structure jt (c:Cf) (t:T5) (n0:List V) (B:LH) (n:Nat):Prop where
 num:ju t.A
 dom:∀u∈dU t.p,Ef c t.A u
 nd:(dU t.p).Nodup
 GQ:FOk c t.A t.fs
 b3:∀p∈t.b,p∈t3 c
 ns:c.rw=false->∃w,n0=[.r w]/\(w,dN.l (Dh.map pv))∈B
 n0:n0.length<=1
 lo:t.out.length<=6*n
 la:t.da.length<=n
 l3:∀x∈t.da,x.length<=3
 lf:t.fs.length<=n
 lb:(t.fs.flatMap (·.np)).length+t.b.length<=n
 ln:n<=320
variable {t:T5} {R:LH} {n:Nat}
def jt.Zr(h:jt c t n0 B n):(dU t.p).length<=5:=List.Nodup.length_le_of_subset h.nd λu a=>(h.dom u a).1
def zT{A:List Str}(h:∀u∈N,pfx c A2 u=pfx c A u):vA c A2 N=vA c A N:=congrArg (List.map pv) (cP λu a=>by rw[h u a])
def lvl(c:Cf)(A:List Str)(fs:List Fm):List (Nat×List V):=List.rec [] (λf fs ih=>(f.lv,BW c A fs)::ih) fs
def YW(b:List (Str×Str))(fs:List Fm):List (Nat×List V):=List.rec [] (λf fs ih=>(f.nv,(Li b fs).map pv)::ih) fs
def Gi{A:List Str}{fs:List Fm}:(lvl c A fs).map (λx=>V.r x.1)=fs.map λf=>V.r f.lv:=by
 induction fs with
 |nil=>rfl
 |cons f fs ih=>exact congrArg _ ih
def R3{b:List (Str×Str)}{fs:List Fm}:(YW b fs).map (λx=>V.r x.1)=fs.map λf=>V.r f.nv:=by
 induction fs with
 |nil=>rfl
 |cons f fs ih=>exact congrArg _ ih
def Gj{A:List Str}{b:List (Str×Str)}{fs:List Fm}:∀x∈lvl c A fs,(x.1,dN.l x.2)∈frs c A b fs:=by
 induction fs with
 |nil=>exact λU h=>nomatch h
 |cons f fs ih=>
  intro x a;rcases aA a with rfl|a
  exact .tail _ (.head _)
  exact .tail _ (.tail _ (ih x a))
def R4{A:List Str}{b:List (Str×Str)}{fs:List Fm}:∀x∈YW b fs,(x.1,dN.l x.2)∈frs c A b fs:=by
 induction fs with
 |nil=>exact λU h=>nomatch h
 |cons f fs ih=>
  intro x a;rcases aA a with rfl|a
  exact .head _
  exact .tail _ (.tail _ (ih x a))
def xZ{A:List Str}{fs:List Fm}:BW c A fs++(lvl c A fs).flatMap (·.2)=((dU (fs.map (·.r))).map λu=>(u,pfx c A u)).map pv:=by
 induction fs with
 |nil=>rfl
 |cons f fs ih=>
  show vA c A f.r.N++(BW c A fs++(lvl c A fs).flatMap _)=((f.r.N++(fs.map (·.r)).flatMap (·.N)++[eG]).map λu=>(u,pfx c A u)).map pv;rewrite [ih,aQ,aH,aH];rfl
def R5{b:List (Str×Str)}{fs:List Fm}:(Li b fs).map pv++(YW b fs).flatMap (·.2)=(fs.flatMap (·.np)++b).map pv:=by
 induction fs with
 |nil=>exact aX _
 |cons f fs ih=>
  show f.np.map pv++((Li b fs).map pv++(YW b fs).flatMap _)=(f.np++fs.flatMap (·.np)++b).map pv;rw[ih,aQ,<- aH]
def jt.short(h:jt c t n0 B n):∀p∈(dU t.p).map λu=>(u,pfx c t.A u),p.2.length<1000:=λp hp=>by
 obtain⟨v,a,rfl⟩:=aF hp;exact iT h.num (h.dom v a).1
theorem jt.ug(h:jt c t n0 B n)(a:∀x∈t.R c,x∈R):rO (t.s c n0).ds (t.s c n0).lv (t.s c n0).lp R ((dU t.p).map λu=>(u,pfx c t.A u)) where
 ex:=⟨(lvl c t.A t.fs).reverse,by rw[dD,Gi];rfl,λx b=>a _ (Gj x (List.mem_reverse.mp b)),by rw[List.reverse_reverse];exact xZ⟩
 few:=by
  show((t.fs.map λf:Fm=>V.r f.lv).reverse).length<900;rw[cW,aB];have:=h.lf;have:=h.ln;lia
 small:=by rw[aB];exact aU h.Zr ()
 short:=h.short
theorem jt.ahz(h:jt c t n0 B n)(b:∀x∈t.R c,x∈R)(m:Nat):rO ((t.s c n0).op m).ds m [] ((t.lv,.l (BW c t.A t.fs))::R) ((dU t.p).map λu=>(u,pfx c t.A u)) where
 ex:=⟨(lvl c t.A t.fs).reverse++[(t.lv,BW c t.A t.fs)],by
   rw[aH,dD,Gi];rfl,λx a=>by
   rcases aD a with a|a
   exact .tail _ (b _ (Gj x (List.mem_reverse.mp a)))
   cases au a;exact .head _,by
   rw[List.reverse_append,List.reverse_reverse];exact xZ⟩
 few:=by
  show((t.fs.map λf:Fm=>V.r f.lv).reverse++[_]).length<900;rw[aC,cW,aB];have:=h.lf;have:=h.ln;show _+1<900;lia
 small:=by rw[aB];exact aU h.Zr ()
 short:=h.short
def V1(c:Cf):(∀p∈t3 c,p.1∈(["e","u","v"]:List Str)/\p.2=pK c p.1/\p.2.length<1000)/\(∀u∈(["e","u","v"]:List Str),u∈(t3 c).map (·.1)):=(by decide+kernel:∀ba:Bool,(∀p∈t3 ⟨false,false,false,false,ba⟩,p.1∈(["e","u","v"]:List Str)/\p.2=pK ⟨false,false,false,false,ba⟩ p.1/\p.2.length<1000)/\(∀u∈(["e","u","v"]:List Str),u∈(t3 ⟨false,false,false,false,ba⟩).map _)) c.ba
def aac{A:List Str}{fs:List Fm}:FOk c A fs->∀p∈fs.flatMap (·.np),p∈t3 c:=by
 induction fs with
 |nil=>exact λU U h=>nomatch h
 |cons f fs ih=>
  intro h p hp;rcases aD hp with hp|hp
  exact h.1.2.2.2 p hp
  exact ih h.2 p hp
theorem Wj(h:∀p∈l,p∈t3 c){m:List (Str×Str)}:(u∈l.map (·.1)->(l++m).lookup u=some (pK c u))/\(u∉(["e","u","v"]:List Str)->(l++m).lookup u=m.lookup u):=by
 induction l with
 |nil=>exact⟨(λh=>nomatch h),λU=>rfl⟩
 |cons p l ih=>
  obtain⟨i,d⟩:=ih λy b=>h y (.tail _ b);obtain⟨g,f,_⟩:=(V1 c).1 p (h p (.head _));refine⟨λa=>?_,λa=>?_⟩
  ·rw[List.cons_append,bx];cases e:u==p.1 with
   |true=>rw[f,<- beq_iff_eq.mp e]
   |false=>
    refine i ((aA (show u∈p.1::l.map (·.1)from a)).resolve_left λq=>?_);rw[q,bA]at e;exact iC e.symm
  ·rw[List.cons_append,bx,show(u==p.1)=false from bB λq=>a (q▸g)];exact d a
def Dg:(∀p∈Dh,p.2.length<1000)/\Dh.length<=10/\Dh.lookup ("":Str)=none:=by decide+kernel
theorem jt.nsOk(h:jt c t n0 B n)(hb:∀u∈(["e","u","v"]:List Str),u∈t.b.map (·.1))(hc:c.rw=false)(e:∀x∈t.R c,x∈R)(i:∀x∈B,x∈R)(s:S5)(h1:s.ns=(t.s c n0).ns)(k:s.nv=(t.s c n0).nv)(h3:s.np=(t.s c n0).np):∃pn,afW c s R pn:=by
 obtain⟨w,rfl,g⟩:=h.ns hc;have a:=λp hp=>(aD hp).elim (aac h.GQ p) (h.b3 p);refine⟨(t.fs.flatMap (·.np)++t.b)++Dh,⟨⟨⟨(w,Dh.map pv)::(YW t.b t.fs).reverse,?_,λx d=>?_,?_⟩,?_,?_,λp hp=>?_⟩,λu j=>(Wj a).1 ?_,?_⟩⟩
 rw[h1,cC,dD,R3];rfl
 rcases aA d with rfl|d
 exact i _ g
 exact e _ (R4 x (List.mem_reverse.mp d))
 rw[h3,cV,List.reverse_reverse,List.flatMap_append,<- aQ];show(Li t.b t.fs).map pv++_++[(w,Dh.map pv)].flatMap (·.2)=_;rw[R5,aH (l₂:=Dh)];exact congrArg _ ()
 rw[h1];show([V.r w]++(t.fs.map λf:Fm=>V.r f.nv).reverse).length<900;rw[aC,cW,aB];have:=h.lf;have:=h.ln;show 1+_<900;lia
 rw[aC,aC];have:=h.lb;have:=h.ln;have:=Dg.2.1;lia
 rcases aD hp with hp|hp
 exact((V1 c).1 p (a p hp)).2.2
 exact Dg.1 p hp
 rw[aH];exact aG _ (hb u j)
 rw[(Wj a).2 ()];exact Dg.2.2
theorem jt.dc(h:jt c t n0 B n)(hb:∀u∈(["e","u","v"]:List Str),u∈t.b.map (·.1))(a:∀x∈t.R c,x∈R)(d:∀x∈B,x∈R):qx c (t.s c n0) R t.A (dU t.p) where
 num:=h.num
 pm:=λhc=>by show(bif c.rw then nP t.A else[])=_;rw[hc];rfl
 lv:=h.ug a
 dom:=h.dom
 xml:=aG _ (.head _)
 nd:=h.nd
 few:=by
  have e:=congrArg List.length (xZ (c:=c) (A:=t.A) (fs:=t.fs));rw[aC,aB,aB]at e;have:=h.Zr;show(BW c t.A t.fs).length<1000;lia
 ns:=λhc=>h.nsOk hb hc a d _ rfl rfl rfl
theorem jt.dcO(h:jt c t n0 B n)(hb:∀u∈(["e","u","v"]:List Str),u∈t.b.map (·.1))(d:∀x∈t.R c,x∈R)(e:∀x∈B,x∈R)(m:Nat):qx c ((t.s c n0).op m) ((t.lv,.l (BW c t.A t.fs))::R) t.A (dU t.p) where
 num:=h.num
 pm:=λhc=>by show(bif c.rw then nP t.A else[])=_;rw[hc];rfl
 lv:=h.ahz d m
 dom:=h.dom
 xml:=aG _ (.head _)
 nd:=h.nd
 few:=by show([]:List V).length<1000;decide
 ns:=λhc=>h.nsOk hb hc (λx a=>.tail _ (d x a)) (λx a=>.tail _ (e x a)) _ rfl rfl rfl
theorem jt.abG(h:jt c t n0 B n):atIdx (t.s c n0).pr (-1)=some (.b (iD t.p)):=by
 show atIdx (V.b false::(t.fs.map λf=>V.b f.r.pb).reverse) (-1)=_;cases e:t.fs with
 |nil=>unfold T5.p;rw[e];rfl
 |cons f fs=>
  unfold T5.p;rw[e,cC,cV,<- List.cons_append,gQ];rfl
end
variable {t2:Pl->T5} {ps2:PS}
section
variable {t:T5} {R:LH} {n:Nat}
def Az(se:Bool)(y:Str):List Str:=bif y.length !=0&&se then[eV y]else[]
def T5.jd(t:T5)(c:Cf):T5:={t with da:=[],out:=t.out++Az t.se (pZ c (iD t.p) (cat t.da))}
def qP(l:List Str):jn l=cat l:=nH l
def Uo(se:Bool)(y:Str):flO se y=(Az se y).map .s:=by
 unfold flO Az;cases y.length !=0&&se <;> rfl
def sV(se:Bool)(y:Str):(Az se y).length<=1:=by
 unfold Az;cases y.length !=0&&se
 exact bN _
 exact bT _
def uQ:(t.s c n0).fl c t.da (iD t.p)=(t.jd c).s c n0:=by
 show S5.mk _ _ _ _ _ _ _ _ _ _ _ _ _=S5.mk _ _ _ _ _ _ _ _ _ _ _ _ _;congr 1;show t.out.map V.s++flO t.se (pZ c _ _)=(t.out++Az t.se _).map V.s;rw[qP,Uo,aH]
def pW(h:t.da=[]):t.jd c=t:=by
 unfold T5.jd;rw[h];have e:(pZ c (iD t.p) (cat [])).length=0:=by
  unfold pZ;cases c.st&&!iD t.p with
  |true=>rfl
  |false=>rfl
 have:Az t.se (pZ c (iD t.p) (cat []))=[]:=by unfold Az;rw[e];rfl
 rw[this,aX,<- h]
theorem jt.jd(h:jt c t n0 B n)(a:n+1<=320):jt c (t.jd c) n0 B (n+1) where
 num:=h.num
 dom:=h.dom
 nd:=h.nd
 GQ:=h.GQ
 b3:=h.b3
 ns:=h.ns
 n0:=h.n0
 lo:=by
  show(t.out++Az _ _).length<=_;rw[aC];have:=sV t.se (pZ c (iD t.p) (cat t.da));have:=h.lo;lia
 la:=bN _
 l3:=λU h=>nomatch h
 lf:=cZ h.lf
 lb:=cZ h.lb
 ln:=a
def jt.up(h:jt c t n0 B n)(a:n+1<=320):jt c t n0 B (n+1):=⟨h.num,h.dom,h.nd,h.GQ,h.b3,h.ns,h.n0,aK h.lo (),cZ h.la,h.l3,cZ h.lf,cZ h.lb,a⟩
def jt.dat(h:jt c t n0 B n):Dat (t.s c n0) t.da (iD t.p):=by
 have h1:=En h.l3;have:=h.la;have:=h.ln;have:=h.lo;exact⟨gb _,qO (),by show(t.da.map V.s).length<_;rw[aB];lia,by rw[qP];lia,h.abG,by show(t.out.map V.s).length<_;rw[aB];lia⟩
def G7(h:t.da≠[]):(!(t.s c n0).da.isEmpty)=true:=by
 show(!(t.da.map V.s).isEmpty)=true;cases e:t.da with
 |nil=>exact absurd e h
 |cons=>rfl
def Bj(h:t.da=[]):(t.s c n0).da=[]:=by show t.da.map V.s=[];rw[h];rfl
def igT(h:t.ig≠0):((t.s c n0).ig !=0)=true:=bne_iff_ne.mpr λe=>h (Int.ofNat_eq_zero.mp e)
def igF(h:t.ig=0):((t.s c n0).ig !=0)=false:=by show(((t.ig:Nat):Int) !=0)=false;rw[h];rfl
def Qo(h:t.ig=0):(t.s c n0).ig=0:=by show((t.ig:Nat):Int)=0;rw[h];rfl
noncomputable def T5.mO(t:T5)(p:Str×Str):T5:=t.fs.head?.elim {t with b:=t.b++[p]} λf=>{t with fs:={f with np:=f.np++[p]}::t.fs.tail}
def T5.told(t:T5)(c:Cf)(p:Str×Str):T5:=if t.ig≠0 then t else(t.jd c).mO p
theorem aaW(p:Str×Str):(t.mO p).s c n0={t.s c n0 with np:=(t.s c n0).np++[pv p]}:=by
 obtain⟨fs,A,b,lv,nv,out,da,se,dn,ig⟩:=t;cases fs with
 |nil=>
  show S5.mk _ _ _ _ _ _ _ _ _ _ _ _ _=S5.mk _ _ _ _ _ _ _ _ _ _ _ _ _;congr 1;show(b++[p]).map pv=b.map pv++[pv p];rw[aH];rfl
 |cons f fs=>
  show S5.mk _ _ _ _ _ _ _ _ _ _ _ _ _=S5.mk _ _ _ _ _ _ _ _ _ _ _ _ _;congr 1;show(f.np++[p]).map pv=f.np.map pv++[pv p];rw[aH];rfl
def Qe(p:Str×Str):(t.mO p).R c=t.R c/\(t.mO p).p=t.p/\(t.mO p).A=t.A/\(t.mO p).fs.length=t.fs.length:=by
 obtain⟨fs,A,b,lv,nv,out,da,se,dn,ig⟩:=t;cases fs with
 |nil=>lia
 |cons f fs=>lia
theorem Vy(h:jt c t n0 B n)(hb:(t.fs.flatMap (·.np)).length+t.b.length+1<=n)(hp:p∈t3 c):jt c (t.mO p) n0 B n:=by
 obtain⟨fs,A,b,lv,nv,out,da,se,dn,ig⟩:=t;cases fs with
 |nil=>exact⟨h.num,h.dom,h.nd,h.GQ,λx a=>(aD a).elim (h.b3 x) λa=>by rw[au a];exact hp,h.ns,h.n0,h.lo,h.la,h.l3,h.lf,by
   show([]:List _).length+(b++[p]).length<=n;rw[aC];exact hb,h.ln⟩
 |cons f fs=>
  have hf:=h.GQ;refine⟨h.num,h.dom,h.nd,⟨⟨hf.1.1,hf.1.2.1,hf.1.2.2.1,λx a=>(aD a).elim (hf.1.2.2.2 x) λa=>by rw[au a];exact hp⟩,hf.2⟩,h.b3,h.ns,h.n0,h.lo,h.la,h.l3,h.lf,?_,h.ln⟩;have hb:(f.np++fs.flatMap _).length+b.length+1<=n:=hb;show((f.np++[p])++fs.flatMap _).length+b.length<=n;rw[aC]at hb;rw[aC,aC];show _+1+_+_<=_;lia
def jt.YW(h:jt c t n0 B n):(Li t.b t.fs).length<=n:=by
 have:=h.lb;cases e:t.fs with
 |nil=>show t.b.length<=n;lia
 |cons f fs=>
  rw[e]at this;have:(f.np++fs.flatMap _).length+t.b.length<=n:=this;rw[aC]at this;show f.np.length<=n;lia
theorem QT(h:jt c t n0 B n)(d:n+1<=320)(hp:(u,p)∈t3 c):CC (dK Y) 41 (.m 106 (.r q.i)) [.s p,.s u] [] (tg c q (t.s c n0)++(t.R c++R)) (λU=>.n) (λU=>tg c q ((t.told c (u,p)).s c n0)++((t.told c (u,p)).R c++R))/\jt c (t.told c (u,p)) n0 B (n+1):=by
 unfold T5.told;by_cases hi:t.ig≠0
 rw[if_pos hi];exact⟨ab9 (igT hi),h.up d⟩
 rw[if_neg hi,aaW,(Qe _).1];have hi:=Decidable.not_not.mp hi;have hk:=h.YW;have a:(t.s c n0).np.length<1000000:=by show((Li t.b t.fs).map pv).length<_;rw[aB];lia
 have hf:=h.jd d;refine⟨?_,(Vy hf (cu h.lb) hp)⟩
 by_cases hd:t.da=[]
 rw[pW hd];have e:t.s c n0={t.s c n0 with da:=[],ig:=0}:=by
  rw[show({t.s c n0 with da:=[],ig:=0}:S5)={t.s c n0 with da:=(t.s c n0).da,ig:=(t.s c n0).ig}by rw[Bj hd,Qo hi]]
 have:=ace (Y:=Y) (c:=c) (q:=q) (R:=t.R c++R) (p:=p) (u:=u) a;rw[<- e]at this;have f:({t.s c n0 with np:=(t.s c n0).np++[pv (u,p)]}:S5)={t.s c n0 with da:=[],ig:=0,np:=(t.s c n0).np++[.t [.s u,.s p]]}:=by
  rw[show({t.s c n0 with da:=[],ig:=0,np:=(t.s c n0).np++[.t [.s u,.s p]]}:S5)={({t.s c n0 with da:=[],ig:=0}:S5)with np:=(t.s c n0).np++[.t [.s u,.s p]]}from rfl,<- e];rfl
 rw[f];exact this
 have:=acd (Y:=Y) (c:=c) (q:=q) (R:=t.R c++R) (p:=p) (u:=u) h.dat (G7 hd) (Qo hi) a;rw[uQ]at this;exact this
noncomputable def T5.txt(t:T5)(x:Str):T5:=if t.ig≠0 then t else{t with da:=t.da++[x]}
def Nm(hi:t.ig=0):t.s c n0={t.s c n0 with ig:=0}:=by
 rw[show({t.s c n0 with ig:=0}:S5)={t.s c n0 with ig:=(t.s c n0).ig}by rw[Qo hi]]
theorem Xq(h:jt c t n0 B n)(b:n+1<=320)(d:x.length<=3):CC (dK Y) 31 (.m 90 (.r q.i)) [.s x] [] (tg c q (t.s c n0)++(t.R c++R)) (λU=>.n) (λU=>tg c q ((t.txt x).s c n0)++((t.txt x).R c++R))/\jt c (t.txt x) n0 B (n+1):=by
 unfold T5.txt;by_cases hi:t.ig≠0
 rw[if_pos hi];exact⟨aaD (igT hi),h.up b⟩
 rw[if_neg hi];have hi:=Decidable.not_not.mp hi;refine⟨?_,?_⟩
 have hl:(t.s c n0).da.length<1000:=by
  show(t.da.map V.s).length<_;rw[aB];have:=h.la;lia
 have:=aaE (Y:=Y) (c:=c) (q:=q) (R:=t.R c++R) (x:=x) hl;rw[<- Nm hi]at this;have e:({t with da:=t.da++[x]}:T5).s c n0={t.s c n0 with ig:=0,da:=(t.s c n0).da++[.s x]}:=by
  rw[show({t.s c n0 with ig:=0,da:=(t.s c n0).da++[.s x]}:S5)={({t.s c n0 with ig:=0}:S5)with da:=(t.s c n0).da++[.s x]}from rfl,<- Nm hi];show S5.mk _ _ _ _ _ _ _ _ _ _ _ _ _=S5.mk _ _ _ _ _ _ _ _ _ _ _ _ _;rw[aH];rfl
 exact e▸this
 exact⟨h.num,h.dom,h.nd,h.GQ,h.b3,h.ns,h.n0,aK h.lo (),by show(t.da++[x]).length<=_;rw[aC];exact cu h.la,λy a=>(aD a).elim (h.l3 y) λa=>by rw[au a];exact d,cZ h.lf,cZ h.lb,b⟩
end
section
variable {t:T5} {R:LH} {n:Nat}
def T5.say(t:T5)(c:Cf)(m:Str):T5:=if t.ig≠0 then t else if t.dn=true then{t with out:=t.out++[("\n":Str)]++[m]}else if t.se=true then{t.jd c with out:=(t.jd c).out++[m]}else{t with out:=t.out++[m]++[("\n":Str)]}
def Lb{o:List Str}{os:List V}(h:o.map .s=os):({t with out:=o}:T5).s c n0={t.s c n0 with out:=os}:=by subst h;rfl
def aeK{a:Bool}{i:Int}(h1:s.dn=a)(c:s.se=b)(h3:s.ig=i):({s with dn:=a,se:=b,ig:=i}:S5)=s:=by subst h1 c h3;rfl
def ah8{a:Bool}{i:Int}{d:List V}(h1:s.dn=a)(e:s.se=b)(h3:s.ig=i)(c:s.da=d):({s with dn:=a,se:=b,ig:=i,da:=d}:S5)=s:=by subst h1 e h3 c;rfl
def WQ{s:S5}{a:Bool}{i:Int}{o:List V}(h1:s.dn=a)(c:s.se=b)(h3:s.ig=i):({s with dn:=a,se:=b,ig:=i,out:=o}:S5)={s with out:=o}:=by subst h1 c h3;rfl
def aeJ{s:S5}{a:Bool}{i:Int}{d o:List V}(h1:s.dn=a)(e:s.se=b)(h3:s.ig=i)(c:s.da=d):({s with dn:=a,se:=b,ig:=i,da:=d,out:=o}:S5)={s with out:=o}:=by subst h1 c h3 e;rfl
theorem xG{CP:S5->S5->Prop}{m:Str}(h:jt c t n0 B n)(q:n+1<=320)(k:t.dn=true->t.se=true)(hi:∀s:S5,(s.ig !=0)=true->CP s s)(hd:∀s:S5,s.out.length<1000000->CP {s with dn:=true,se:=true,ig:=0} {s with dn:=true,se:=true,ig:=0,out:=s.out++[.s "\n"]++[.s m]})(w:∀s:S5,s.out.length<1000000->CP {s with dn:=false,se:=false,ig:=0} {s with dn:=false,se:=false,ig:=0,out:=s.out++[.s m]++[.s "\n"]})(u:∀s:S5,s.out.length<1000000->CP {s with dn:=false,se:=true,ig:=0,da:=[]} {s with dn:=false,se:=true,ig:=0,da:=[],out:=s.out++[.s m]})(hf:∀(s:S5) (l:List Str) (pb:Bool),Dat s l pb->(!s.da.isEmpty)=true->s.ig=0->s.se=true->s.dn=false->(s.fl c l pb).out.length<1000000->CP s {s.fl c l pb with out:=(s.fl c l pb).out++[.s m]}) :
  CP (t.s c n0) ((t.say c m).s c n0)/\(t.say c m).R c=t.R c/\jt c (t.say c m) n0 B (n+1):=by
 have ho:=h.dat.ho;have v:=h.lo;unfold T5.say;by_cases g:t.ig≠0
 rw[if_pos g];exact⟨hi _ (igT g),rfl,h.up q⟩
 rw[if_neg g];have g:=Decidable.not_not.mp g
 have o2:∀{a b:Str},(t.out++[a]++[b]).length<=6*(n+1):=λ{a b}=>by
  rw[aC,aC];show _+1+1<=_;lia
 have j:∀{a b:Str},jt c {t with out:=t.out++[a]++[b]} n0 B (n+1):=λ{a b}=>⟨h.num,h.dom,h.nd,h.GQ,h.b3,h.ns,h.n0,o2,cZ h.la,h.l3,cZ h.lf,cZ h.lb,q⟩;have m2:∀{a b:Str},(t.out++[a]++[b]).map V.s=(t.s c n0).out++[.s a]++[.s b]:=λ{a b}=>by rw[aH,aH];rfl
 by_cases d:t.dn=true
 rw[if_pos d,Lb m2];have:=hd _ ho;rw[aeK d (k d) (Qo g),WQ d (k d) (Qo g)]at this;exact⟨this,rfl,j⟩
 rw[if_neg d];have d:t.dn=false:=by lia
 by_cases f:t.se=true
 rw[if_pos f];have e:=Lb (t:=t.jd c) (c:=c) (n0:=n0) (o:=(t.jd c).out++[m]) (os:=((t.jd c).s c n0).out++[.s m]) (by rw[aH];rfl);rw[e];refine⟨?_,rfl,h.num,h.dom,h.nd,h.GQ,h.b3,h.ns,h.n0,?_,bN _,(λU h=>nomatch h),cZ h.lf,cZ h.lb,q⟩
 by_cases i:t.da=[]
 rw[pW i];have:=u _ ho;rw[ah8 d f (Qo g) (Bj i),aeJ d f (Qo g) (Bj i)]at this;exact this
 have:=hf _ _ _ h.dat (G7 i) (Qo g) f d (by rw[uQ];exact((h.jd q).dat.ho));rw[uQ]at this;exact this
 show(t.out++Az _ _++[m]).length<=_;rw[aC,aC];have:=sV t.se (pZ c (iD t.p) (cat t.da));show _+_+1<=_;lia
 rw[if_neg f,Lb m2];have f:t.se=false:=by lia
 have:=w _ ho;rw[aeK d f (Qo g),WQ d f (Qo g)]at this;exact⟨this,rfl,j⟩
def aiQ(a b d:Str):cJ++a++b++d=a++b++d:=by rw[dh]
theorem Xr(h:jt c t n0 B n)(g:n+1<=320)(b:t.dn=true->t.se=true)(a:x.length<=3)(hc:c.cm=true):CC (dK Y) 46 (.m 133 (.r q.i)) [.s x] [] (tg c q (t.s c n0)++(t.R c++R)) (λU=>.n) (λU=>tg c q ((t.say c (Bm x)).s c n0)++((t.say c (Bm x)).R c++R))/\jt c (t.say c (Bm x)) n0 B (n+1):=by
 have a:x.length<100000:=by lia
 obtain⟨f,d,e⟩:=xG (CP:=λs s'=>CC _ 46 _ [.s x] [] _ _ (λU=>tg c q s'++(t.R c++R))) h g b (λs hi=>afu hc hi) (λs=>afx hc a) (λs=>afs hc a) (λs=>afw hc a) λs l pb=>afv hc a;rw[show cJ++"<!--"++eV x++"-->"=Bm x by unfold Bm;rw[dh]]at f d e;rw[d];exact⟨f,e⟩
def K3(a:Str):cJ++"<?"++"t"++a="<?t"++a:=by
 congr 1
theorem abH(h:jt c t n0 B n)(d:n+1<=320)(a:t.dn=true->t.se=true)(b:∀y,x=some y->y.length<=3):CC (dK Y) 46 (.m 140 (.r q.i)) [.s "t",oV x] [] (tg c q (t.s c n0)++(t.R c++R)) (λU=>.n) (λU=>tg c q ((t.say c (Qj x)).s c n0)++((t.say c (Qj x)).R c++R))/\jt c (t.say c (Qj x)) n0 B (n+1):=by
 have key:∀{m:Str},(CC _ 46 (.m 140 (.r q.i)) [.s "t",oV x] [] (tg c q (t.s c n0)++(t.R c++R)) _ (λU=>tg c q ((t.say c m).s c n0)++(t.R c++R))/\(t.say c m).R c=t.R c/\jt c (t.say c m) n0 B _)->m=Qj x->CC (dK Y) 46 _ [.s "t",oV x] [] _ (λU=>.n) (λU=>tg c q ((t.say c _).s c n0)++((t.say c (Qj x)).R c++R))/\jt c _ n0 B (n+1):=λ{m} k e=>by
  rw[e]at k;obtain⟨o,g,j⟩:=k;rw[g];exact⟨o,j⟩
 cases x with
 |none=>
  refine key (xG (CP:=λs s'=>CC _ 46 _ [.s "t",.n] [] (tg c q s++(t.R c++R)) _ (λU=>tg c q s'++(t.R c++R))) h d a (λs hi=>YD (x:=cJ) hi) (λs=>acI (x:=cJ)) (λs=>acF (x:=cJ)) (λs=>acH (x:=cJ)) λs l pb=>acG (x:=cJ)) ?_;rw[K3];show _="<?t"++cJ++"?>";rw[dz]
 |some y=>
  have b:y.length<100000:=by have:=b y rfl;lia
  by_cases h0:y.length=0
  have f:=jQ h0;subst f;refine key (xG (CP:=λs s'=>CC _ 46 _ [.s "t",.s ""] [] (tg c q s++(t.R c++R)) _ (λU=>tg c q s'++(t.R c++R))) h d a (λs hi=>YD (x:=cJ) hi) (λs=>acQ (x:=cJ)) (λs=>acN (x:=cJ)) (λs=>acP (x:=cJ)) λs l pb=>acO (x:=cJ)) ?_;rw[K3];show _="<?t"++(if("":Str).length=0 then cJ else" "++eV "")++"?>";rw[if_pos h0,dz]
  refine key (xG (CP:=λs s'=>CC _ 46 _ [.s "t",.s y] [] (tg c q s++(t.R c++R)) _ (λU=>tg c q s'++(t.R c++R))) h d a (λs hi=>YD (x:=cJ) hi) (λs=>acM b (vH h0)) (λs=>acJ b (vH h0)) (λs=>acL b (vH h0)) λs l pb=>acK b (vH h0)) ?_;rw[K3];show _="<?t"++(if y.length=0 then cJ else" "++eV y)++"?>";rw[if_neg h0,dj "<?t"]
end
section
variable {t:T5} {R:LH} {n:Nat}
def T5.close(t:T5)(c:Cf):T5:=if t.ig≠0 then{t with ig:=t.ig-1}else t.fs.head?.elim t λf=>{t.jd c with fs:=t.fs.tail,lv:=f.lv,nv:=f.nv,out:=(t.jd c).out++[nq f.r.f],dn:=t.fs.tail.isEmpty}
def s5c{o d n n':List V}(h1:d=d')(a:n=n')(h3:p=p'):S5.mk o da d n lv nv lp np pm p se dn ig=S5.mk o da d' n' lv nv lp np pm p' se dn ig:=by subst h1 a h3;rfl
abbrev T5.sb(t:T5)(c:Cf)(n0:List V)(fs:List Fm):S5:={t.s c n0 with ds:=(fs.map λf:Fm=>V.r f.lv).reverse,ns:=n0++(fs.map λf:Fm=>V.r f.nv).reverse,pr:=.b false::(fs.map λf:Fm=>V.b f.r.pb).reverse}
section
variable {f:Fm} {fs:List Fm} (e:t.fs=f::fs)
include e
def zH:(t.sb c n0 fs).up f.lv f.nv f.r.pb=t.s c n0:=s5c (by rw[e];exact List.reverse_cons.symm) (by rw[e,aQ];exact congrArg _ List.reverse_cons.symm) (by rw[e];exact congrArg _ List.reverse_cons.symm)
def Ob(S:S5):tg c q S++(t.R c++R)=tg c q S++[(f.nv,.l ((Li t.b fs).map pv)),(f.lv,.l (BW c t.A fs))]++(frs c t.A t.b fs++R):=by
 show _++(frs c t.A t.b t.fs++R)=_;rw[e];rfl
def Yh(h:jt c t n0 B n):(t.sb c n0 fs).pr.length<900/\((t.sb c n0 fs).ds++[V.r f.lv]).length<900/\((t.sb c n0 fs).ns++[V.r f.nv]).length<900:=by
 have h1:fs.length+1<=320:=by
  have:=h.lf;rw[e]at this;exact aK this h.ln
 have a:=h.n0;refine⟨?_,?_,?_⟩
 rw[aO,cW,aB];exact aU h1 ()
 rw[aC,cW,aB];exact aU h1 ()
 rw[aC,aC,cW,aB,Nat.add_assoc];exact aU (dg a h1) ()
theorem Xo(h:jt c t n0 B n)(Q:n+1<=320)(hb:∀u∈(["e","u","v"]:List Str),u∈t.b.map (·.1))(P:∀x∈B,x∈R)(hi:t.ig=0){o:List Str}(ho:o=(t.jd c).out++[nq f.r.f]):CC (dK Y) 91 (.m 126 (.r q.i)) [.s f.r.t.q] [] (tg c q (t.s c n0)++(t.R c++R)) (λU=>.n) (λU=>tg c q ((⟨fs,t.A,t.b,f.lv,f.nv,o,[],t.se,fs.isEmpty,t.ig⟩:T5).s c n0)++(frs c t.A t.b fs++R)):=by
 have hk:=h.GQ;rw[e]at hk;obtain⟨G,w,F,_⟩:=hk.1;have hk:=jK w;have L:=h.jd Q;have j:∀y∈t.R c,y∈t.R c++R:=λy E=>cH _ E;have z:∀y∈B,y∈t.R c++R:=λy E=>aG _ (P y E);have nn:¬ needs c (dU t.p) f.r.t.uri:=by unfold T5.p;rw[e];exact F
 have K:=Zi Y q (R:=_) (h.dc hb j z) hk.f hk.u hk.ne;have H:=Zi Y q (R:=_) (L.dc (R:=t.R c++R) hb j z) hk.f hk.u hk.ne;rw[show((t.s c n0).qn c t.A (dU t.p) f.r.t.uri)=t.s c n0 from if_neg nn,Ob e]at K;rw[show(((t.jd c).s c n0).qn c (t.jd c).A (dU (t.jd c).p) f.r.t.uri)=(t.jd c).s c n0 from if_neg nn,Ob e,<- uQ]at H;have C:(gY c t.A f.r.t.uri f.r.t.tag).length<10000:=cA (pU h.num w) ();obtain⟨hp,v,d⟩:=Yh (f:=f) e h;have N:cJ++"</"++gY c t.A f.r.t.uri f.r.t.tag++">"=nq f.r.f:=by rw[<- G];exact aiQ _ _ _
 have a:iD t.p=f.r.pb:=by unfold T5.p;rw[e];rfl
 have D:(((t.sb c n0 fs).pr.length:Int)==1)=fs.isEmpty:=by
  show(((V.b false::(fs.map λf:Fm=>V.b f.r.pb).reverse).length:Int)==1)=_;rw[aO,cW,aB];cases fs with
  |nil=>rfl
  |cons g l=>exact bB (by rw[aO];lia)
 have fin:∀S:S5,S={t.sb c n0 fs with out:=(t.jd c).out.map .s,da:=[]}->S.dw f.lv f.nv (BW c t.A fs) ((Li t.b fs).map pv) (nq f.r.f)=(⟨fs,t.A,t.b,f.lv,f.nv,o,[],t.se,fs.isEmpty,t.ig⟩:T5).s c n0:=λS X=>by
  rewrite [X,ho,<- D,show(⟨fs,t.A,t.b,f.lv,f.nv,(t.jd c).out++[nq f.r.f],[],t.se,(((t.sb c n0 fs).pr.length:Int)==1),t.ig⟩:T5).s c n0={S5.dw {t.sb c n0 fs with out:=(t.jd c).out.map .s,da:=[]} f.lv f.nv (BW c t.A fs) ((Li t.b fs).map pv) (nq f.r.f)with out:=((t.jd c).out++[nq f.r.f]).map .s}from rfl,aH];rfl
 rw[Ob e];by_cases hd:t.da=[]
 ·have M:=aeN (Y:=Y) (c:=c) (q:=q) (s:=t.sb c n0 fs) (R:=frs c t.A t.b fs++R) (t:=f.r.t.q) (f1:=gY c t.A f.r.t.uri f.r.t.tag) (f2:=f.r.t.tag) (f3:=f.r.t.uri) (lv:=f.lv) (nv:=f.nv) (b:=f.r.pb) (igF (t:=t) (c:=c) (n0:=n0) hi) (Bj (t:=t) (c:=c) (n0:=n0) hd) (by rw[zH e];exact K) C h.dat.ho hp v d;rw[zH e,N,fin (t.sb c n0 fs) (by
   rw[pW hd];exact(show t.sb c n0 fs={t.sb c n0 fs with da:=t.da.map .s}from rfl).trans (by rw[hd];rfl))]at M
  exact M
 ·have I:=aeM (Y:=Y) (c:=c) (q:=q) (s:=t.sb c n0 fs) (R:=frs c t.A t.b fs++R) (t:=f.r.t.q) (f1:=gY c t.A f.r.t.uri f.r.t.tag) (f2:=f.r.t.tag) (f3:=f.r.t.uri) (lv:=f.lv) (nv:=f.nv) (b:=f.r.pb) (l:=t.da) (pb:=f.r.pb) (igF (t:=t) (c:=c) (n0:=n0) hi) (by rw[zH e,<- a];exact h.dat) (G7 (t:=t) (c:=c) (n0:=n0) hd) (by rw[zH e,<- a];exact H) C h.dat.ho hp v d (by
   have k:=L.dat.ho;rw[<- uQ,a]at k;exact k)
  rw[zH e,N,fin ((t.sb c n0 fs).fl c t.da f.r.pb) (by
   rw[<- a];show{t.sb c n0 fs with da:=[],out:=((t.s c n0).fl c t.da (iD t.p)).out}=_;rw[uQ];rfl)]at I
  exact I
end
theorem Xp(h:jt c t n0 B n)(j:n+1<=320)(hb:∀u∈(["e","u","v"]:List Str),u∈t.b.map (·.1))(l:∀x∈B,x∈R)(hf:t.ig≠0\/t.fs≠[])(d:t.ig=0->t.fs.head?.map (λf:Fm=>f.r.t.q)=some x):CC (dK Y) 91 (.m 126 (.r q.i)) [.s x] [] (tg c q (t.s c n0)++(t.R c++R)) (λU=>.n) (λU=>tg c q ((t.close c).s c n0)++((t.close c).R c++R))/\jt c (t.close c) n0 B (n+1):=by
 unfold T5.close;by_cases hi:t.ig≠0
 ·rw[if_pos hi];have e:((t.ig-1:Nat):Int)=(t.s c n0).ig-1:=Int.ofNat_sub (Nat.pos_of_ne_zero hi);have k:=aeL (Y:=Y) (c:=c) (q:=q) (R:=t.R c++R) (t:=x) (igT (t:=t) (c:=c) (n0:=n0) hi);rw[<- e]at k;exact⟨k,h.num,h.dom,h.nd,h.GQ,h.b3,h.ns,h.n0,aK h.lo (),cZ h.la,h.l3,cZ h.lf,cZ h.lb,j⟩
 rw[if_neg hi];have hi:t.ig=0:=Decidable.not_not.mp hi;cases e:t.fs with
 |nil=>exact absurd e (hf.resolve_left λq=>q hi)
 |cons f fs=>
  have d:=d hi;rw[e]at d;obtain rfl:f.r.t.q=x:=bh d;refine⟨Xo e h j hb l hi rfl,?_⟩;have hd:dU t.p=f.r.N++dU (fs.map (·.r)):=by
   unfold T5.p;rw[e];exact aQ ..
  have hl:=h.lf;have hb:=h.lb;have ho:=h.lo;have g:=sV t.se (pZ c (iD t.p) (cat t.da));have a:=h.GQ;rw[e]at hl hb a;rw[aO]at hl;refine⟨h.num,λu o=>h.dom u (by rw[hd];exact aG _ o),?_,a.2,h.b3,h.ns,h.n0,?_,bN _,(λU h=>nomatch h),cZ (Nat.le_of_succ_le hl),?_,j⟩
  ·have:=h.nd;rw[hd]at this;exact(List.nodup_append.mp this).2.1
  ·show(t.out++Az _ _++[nq f.r.f]).length<=_;rw[aC,aC];exact aK (cu (dg ho g)) (cM (show 2<=6 by decide) (6*n))
  ·have hb:(f.np++fs.flatMap (·.np)).length+t.b.length<=n:=hb;rw[aC]at hb;exact cZ (aK (Nat.add_le_add_right (Nat.le_add_left ..) _) hb)
end
section
variable {t:T5} {R:LH} {n:Nat}
theorem N8{A:List Str}{b:List (Str×Str)}{fs:List Fm}:(∀u∈dU (fs.map (·.r)),pfx c A2 u=pfx c A u)->BW c A2 fs=BW c A fs/\frs c A2 b fs=frs c A b fs:=by
 induction fs with
 |nil=>exact λh=>⟨zT h,rfl⟩
 |cons f fs ih=>
  intro h;obtain⟨e,d⟩:=ih λu a=>h u (by
   show u∈f.r.N++(fs.map (·.r)).flatMap (·.N)++[eG];rw[aQ];exact aG _ a)
  refine⟨zT λu a=>h u (cH _ (cH _ a)),?_⟩;show(f.nv,_)::(f.lv,dN.l _)::frs c A2 b fs=(f.nv,_)::(f.lv,dN.l _)::frs c A b fs;rw[e,d]
def I8{A D:List Str}(hp:∀u∈D,pfx c A2 u=pfx c A u)(b:¬ needs c D u):gY c A2 u g=gY c A u g:=by
 unfold gY;by_cases a:u=""/\c.rw=false
 ·rw[if_pos a,if_pos a]
 ·rw[if_neg a,if_neg a,hp u (Decidable.not_not.mp λq=>b ⟨q,a⟩)]
def Od{A:List Str}{fs:List Fm}:(∀u∈dU (fs.map (·.r)),pfx c A2 u=pfx c A u)->FOk c A fs->FOk c A2 fs:=by
 induction fs with
 |nil=>exact λU h=>h
 |cons f fs ih=>
  exact λhp h=>⟨⟨h.1.1.trans (I8 hp h.1.2.2.1).symm,h.1.2⟩,ih (λu a=>hp u (by
   show u∈f.r.N++(fs.map (·.r)).flatMap (·.N)++[eG];rw[aQ];exact aG _ a)) h.2⟩
def Fy{v:Str}(h:v∈x.1):v∈(pB c D0 x u).1:=by
 unfold pB;by_cases hd:needs c (x.1++D0) u
 ·rw[if_pos hd];exact cH _ h
 ·rw[if_neg hd];exact h
def Ba{v:Str}:∀{x:List Str×List Str},v∈x.1->v∈(gK c D0 ms x).1:=by
 induction ms with
 |nil=>exact λh=>h
 |cons m ms ih=>exact λh=>ih (Fy h)
theorem YX:∀{x:List Str×List Str},∀m∈ms,¬ needs c ((gK c D0 ms x).1++D0) m.uri:=by
 induction ms with
 |nil=>exact λU h=>nomatch h
 |cons d ms ih=>
  intro x m b;rcases aA b with rfl|b
  show ¬ needs c ((gK c D0 ms (pB c D0 x m.uri)).1++D0) m.uri;intro q;by_cases hd:needs c (x.1++D0) m.uri
  refine q.1 (cH _ (Ba ?_));unfold pB;rw[if_pos hd];exact aG _ (.head _)
  refine hd ⟨λa=>q.1 ?_,q.2⟩;rcases aD a with a|a
  exact cH _ (Ba (Fy a))
  exact aG _ a
  exact ih m b
def Qh(f:Str)(l:List (Str×Str)):List Str:=[("<":Str)++f]++(if l=[]then[]else[jn (l.map atS)])++[(">":Str)]
def QL(f:Str)(l:List (Str×Str)):(Qh f l).map V.s=xg f l:=by
 unfold Qh xg;by_cases h:l=[]
 rw[if_pos h,if_pos h];rfl
 rw[if_neg h,if_neg h];rfl
def QS(f:Str)(l:List (Str×Str)):cat (Qh f l)=w7 f l:=by
 unfold Qh w7;rw[jk,jk,jj,jj];by_cases h:l=[]
 ·rw[if_pos h,h];rfl
 ·rewrite [if_neg h,jj,qP];rfl
def QM(f:Str)(l:List (Str×Str)):(Qh f l).length<=3:=by
 unfold Qh;by_cases h:l=[]
 rw[if_pos h];exact cF 2
 rw[if_neg h];exact bT 3
abbrev T5.x(t:T5)(c:Cf)(nm:N5)(at':List (N5×Str)):List Str×List Str:=gK c (dU t.p) (Gh c nm at') ([],t.A)
def T5.push(t:T5)(c:Cf)(nm:N5)(at':List (N5×Str))(lv nv:Nat):T5:=⟨⟨⟨nm,gY c (t.x c nm at').2 nm.uri nm.tag,(t.x c nm at').1,lg c nm at',V4 (iD t.p) ((dO (fY c at')).lookup mD)⟩,t.lv,t.nv,[]⟩::t.fs,(t.x c nm at').2,t.b,lv,nv,t.out++Qh (gY c (t.x c nm at').2 nm.uri nm.tag) (gR c (t.x c nm at') (fY c at')),t.da,true,t.dn,t.ig⟩
def Le:((t.s c n0).op m).na c ([],t.A)=(t.s c n0).op m:=by
 show S5.mk _ _ _ _ _ _ _ _ _ _ _ _ _=S5.mk _ _ _ _ _ _ _ _ _ _ _ _ _;congr 1;show(bif c.rw then nP t.A else bif c.rw then nP t.A else[])=bif c.rw then nP t.A else[];cases c.rw <;> rfl
def s5k{o q i d n n':List V}{c b:Nat}{a np g:List V}{f e:Bool}(h1:o=q)(u:da=i)(h3:d=d')(s:n=n')(t:lv=c)(w:nv=b)(x:lp=a)(r:np=g)(v:pm=h)(j:p=p')(l:se=f)(m:dn=e)(k:ig=ig'):S5.mk o da d n lv nv lp np pm p se dn ig=S5.mk q i d' n' c b a g h p' f e ig':=()
theorem s5e{s s':S5}(h1:s.out=s'.out)(b:s.ds=s'.ds)(h3:s.ns=s'.ns)(a:s.pm=s'.pm)(c:s.pr=s'.pr)(r:(s.da,s.lv,s.nv,s.lp,s.np,s.se,s.dn,s.ig)=(s'.da,s'.lv,s'.nv,s'.lp,s'.np,s'.se,s'.dn,s'.ig)):s=s':=
 s5k h1 (congrArg (·.1) r) b h3 (congrArg (·.2.1) r) (congrArg (·.2.2.1) r) (congrArg (·.2.2.2.1) r) (congrArg (·.2.2.2.2.1) r) a c (congrArg (·.2.2.2.2.2.1) r) (congrArg (·.2.2.2.2.2.2.1) r) (congrArg (·.2.2.2.2.2.2.2) r)
theorem Yw:((t.s c n0).op lv).st c t.A (dU t.p) nm at' (iD t.p) nv=(t.push c nm at' lv nv).s c n0:=by
 refine s5e ?_ ?_ ?_ ?_ ?_ rfl
 show t.out.map V.s++xg _ _=(t.out++Qh _ _).map V.s;rw[aH,QL]
 show(t.fs.map λf:Fm=>V.r f.lv).reverse++[.r t.lv]=((_::t.fs).map λf:Fm=>V.r f.lv).reverse;rw[cC,cV]
 show n0++(t.fs.map λf:Fm=>V.r f.nv).reverse++[.r t.nv]=n0++((_::t.fs).map λf:Fm=>V.r f.nv).reverse;rw[cC,cV,aQ]
 show(bif c.rw then nP (t.x c nm at').2 else bif c.rw then nP t.A else[])=bif c.rw then nP (t.x c nm at').2 else[];cases c.rw <;> rfl
 show V.b false::(t.fs.map λf:Fm=>V.b f.r.pb).reverse++[_]=.b false::((_::t.fs).map λf:Fm=>V.b f.r.pb).reverse;rw[cC,cV];rfl
theorem jt.st(h:jt c t n0 B n)(hb:∀u∈(["e","u","v"]:List Str),u∈t.b.map (·.1))(e:∀x∈B,x∈R)(g:nm∈iz)(d:fO at')(m:Nat):afT c ((t.s c n0).op m) ((t.lv,.l (BW c t.A t.fs))::(t.R c++R)) t.A (dU t.p) nm at' (iD t.p) where
 at':=d
 t:=g
 dc:=by rw[Le];exact h.dcO hb (λx a=>cH _ a) (λx a=>aG _ (e x a)) m
 hp:=h.abG
 pr:=by
  show(V.b false::(t.fs.map λf:Fm=>V.b f.r.pb).reverse).length<_;rw[aO,cW,aB];have:=h.lf;have:=h.ln;lia
 ns:=by
  show(n0++(t.fs.map λf:Fm=>V.r f.nv).reverse).length<_;rw[aC,cW,aB];have:=h.lf;have:=h.ln;have:=h.n0;lia
 out:=by
  show(t.out.map V.s).length<_;rw[aB];have:=h.lo;have:=h.ln;lia
def wB(h:jt c t n0 B n):∀u∈dU t.p,pfx c (t.x c nm at').2 u=pfx c t.A u:=λu a=>Gf λhc=>(h.dom u a).2.1 hc
def Yx(h:jt c t n0 B n):(t.push c nm at' lv nv).R c=two (t.s c n0)++t.R c:=by
 obtain⟨h1,a⟩:=N8 (wB h);show(t.nv,_)::(t.lv,dN.l (BW c (t.x c nm at').2 t.fs))::frs c (t.x c nm at').2 t.b t.fs=_;rw[h1,a];rfl
def Kd(h:jt c t n0 B n)(hb:∀u∈(["e","u","v"]:List Str),u∈t.b.map (·.1))(f:∀x∈B,x∈R)(g:nm∈iz)(d:fO at'):Sta Y c q (t.s c n0) (t.R c++R) nm.q m (dO at') λa e=>(t.push c nm at' a e).s c n0:=λa=>by
 have k:=aht Y q (m:=m) (h.st hb f g d a);rw[Le]at k;exact k.perm (.refl _) λx=>by
  rw[Yw];exact .refl _
theorem RG(h:jt c t n0 B n)(hb:∀u∈(["e","u","v"]:List Str),u∈t.b.map (·.1))(i:nm∈iz)(j:fO at')(lv nv:Nat)(hk:k<=320)(f:t.out.length+3<=6*k)(a:n<=k)(e:t.fs.length+1<=k):jt c (t.push c nm at' lv nv) n0 B k:=by
 have d:=G3 (ms:=Gh c nm at') Wh (by rw[Le];exact h.dcO hb (λx g=>cH _ g) (λx g=>aG _ g) 0);have hD:dU (t.push c nm at' lv nv).p=(t.x c nm at').1++dU t.p:=aQ ..;refine⟨d.num,by rw[hD];exact d.dom,by rw[hD];exact d.nd,⟨⟨rfl,i,?_,λU h=>nomatch h⟩,Od (wB h) h.GQ⟩,h.b3,h.ns,h.n0,?_,aK h.la a,h.l3,e,aK h.lb a,hk⟩
 show ¬ needs c (dU (t.push c nm at' lv nv).p) nm.uri;exact hD▸YX nm (List.mem_filter.mpr ⟨i,bC (.head _)⟩)
 show(t.out++Qh _ _).length<=_;rw[aC];exact aK (cM (QM ..) _) f
theorem zu(h:jt c t n0 B n)(o:n+1<=320)(hb:∀u∈(["e","u","v"]:List Str),u∈t.b.map (·.1))(l:∀x∈B,x∈R)(hi:t.ig=0)(j:gone.contains nm.q=false)(g:nm∈iz)(d:fO at')(m:Nat):CC (dK Y) 91 (.m 113 (.r q.i)) [.s nm.q,.r m] [] (tg c q (t.s c n0)++[(m,fG (dO at'))]++(t.R c++R)) (λU=>.n) (λx=>tg c q (((t.jd c).push c nm at' (x 0) (x 1)).s c n0)++(((t.jd c).push c nm at' (x 0) (x 1)).R c++R))/\∀lv nv,jt c ((t.jd c).push c nm at' lv nv) n0 B (n+1):=by
 have a:=h.jd o;have hl:(t.s c n0).ds.length<900:=by
  show((t.fs.map λf:Fm=>V.r f.lv).reverse).length<_;rw[cW,aB];have:=h.lf;have:=h.ln;lia
 have w:=h.lo;refine⟨?_,λlv nv=>RG a hb g d lv nv o ?_ (bT _) (cu h.lf)⟩
 ·have e:∀x:Pl,tg c q (((t.jd c).push c nm at' (x 0) (x 1)).s c n0)++(((t.jd c).push c nm at' (x 0) (x 1)).R c++R)=tg c q (((t.jd c).push c nm at' (x 0) (x 1)).s c n0)++two ((t.jd c).s c n0)++((t.jd c).R c++R):=λx=>by
   rw[Yx a,aQ,aQ]
  simp only[e];by_cases hd:t.da=[]
  ·rw[pW hd]at a ⊢;exact ab2 (igF hi) j (Bj hd) hl (Kd h hb l g d)
  ·have k:=ab1 (Y:=Y) (q:=q) (R:=t.R c++R) (m:=m) (kvs:=dO at') (s2:=λw y=>((t.jd c).push c nm at' w y).s c n0) (igF hi) j h.dat (G7 hd) hl (by rw[uQ];exact Kd a hb l g d);exact k
 ·show(t.out++Az _ _).length+3<=_;rw[aC];have:=sV t.se (pZ c (iD t.p) (cat t.da));lia
theorem Ft(h:jt c t n0 B n)(b:n+1<=320)(a:t.ig≠0\/gone.contains x=true)(m:Nat):CC (dK Y) 91 (.m 113 (.r q.i)) [.s x,.r m] [] (tg c q (t.s c n0)++(t.R c++R)) (λU=>.n) (λU=>tg c q (({t with ig:=t.ig+1}:T5).s c n0)++(t.R c++R))/\jt c {t with ig:=t.ig+1} n0 B (n+1):=by
 refine⟨?_,h.num,h.dom,h.nd,h.GQ,h.b3,h.ns,h.n0,aK h.lo (),cZ h.la,h.l3,cZ h.lf,cZ h.lb,b⟩;by_cases hi:t.ig≠0
 exact ab0 (igT hi)
 exact abZ (igF ()) ()
end
section
variable {t:T5} {R:LH} {n:Nat}
def Ul(xs:List V):∀k,k<=xs.length->(List.range k).filterMap (xs[·]?)=xs.take k:=λk=>by
 induction k with
 |zero=>exact λU=>rfl
 |succ k ih=>exact λhk=>by rw[List.range_succ,List.filterMap_append,ih (Nat.le_of_succ_le hk),List.take_add_one,cL];rfl
theorem Yn{n:Int}(h:n=k):sliceRange 0 n 1=List.range k:=by
 subst h;have e:(if(0:Int)<(k:Int)then((k:Int)-0+1-1)/1 else 0).toNat=k:=by
  cases k with
  |zero=>rfl
  |succ k=>rw[if_pos (Int.natCast_pos.mpr (Nat.succ_pos k)),Int.ediv_one,Int.add_sub_cancel,Int.sub_zero];rfl
 exact(congrArg (λc=>(List.range c).map _) e).trans ((cP λk U=>by rw[Int.one_mul,Int.zero_add];rfl).trans (List.map_id' _))
theorem Bl(xs:List V):jN xs none (some (-1)) none=xs.dropLast:=by
 rw[List.dropLast_eq_take,<- Ul xs _ (Nat.sub_le ..)];unfold jN;refine congrArg (List.filterMap _) (Yn ?_);cases xs with
 |nil=>rfl
 |cons x xs=>
  show max 0 (min ((-1:Int)+((xs.length+1:Nat):Int)) ((xs.length+1:Nat):Int))=_;rw[Int.natCast_succ,Int.add_comm,Int.add_neg_cancel_right,Int.min_eq_left (Int.le_add_of_nonneg_right ())];exact Int.max_eq_right (Int.natCast_nonneg _)
noncomputable def jO(K:List E5):Option Str:=K.getLast?.elim none λe=>match e with
 |.dat y=>some y
 |_=>none
def oJ(K:List E5)(x:Str):List E5:=(jO K).elim (K++[.dat x]) λy=>K.dropLast++[.dat (y++x)]
def lJ(c:Cf)(K:List E5):E5->List E5
 |.dat x=>oJ K x
 |.com x=>bif c.cm then K++[.com x]else K
 |e=>K++[e]
def lC:E5->Str×V×V
 |.told p u=>("told",.s p,.s u)
 |.start t m _=>("start",.s t.q,.r m)
 |.fin t=>("end",.s t.q,.n)
 |.com x=>("comment",.s x,.n)
 |.pi x=>("pi",.s "t",oV x)
 |.dat x=>("data",.s x,.n)
def yE(e:E5):gP e=.t [.s (lC e).1,(lC e).2.1,(lC e).2.2]:=by cases e <;> rfl
def lH{α:Type}(K:List α)(h:K≠[]):∃K0 e,K=K0++[e]:=⟨K.dropLast,K.getLast h,(List.dropLast_concat_getLast h).symm⟩
def kd1:(("told":Str)=="data")=false/\(("told":Str)=="comment")=false:=()
def kd2:(("start":Str)=="data")=false/\(("start":Str)=="comment")=false:=()
def kd3:(("end":Str)=="data")=false/\(("end":Str)=="comment")=false:=()
def kd4:(("pi":Str)=="data")=false/\(("pi":Str)=="comment")=false:=()
def kd5:(("comment":Str)=="data")=false:=()
theorem Av{hd kp:Nat}{K:List E5}{e:E5}(h:hl.contains true=false)(f:K.length<lim)(h1:((lC e).1=="data")=false)(d:c.cm=true\/((lC e).1=="comment")=false):PX (dK Y) 146 (dZ Y 195) ((jV Y).drop 1) ((jV Y).drop 2) (mJ Y.sa c ky gn lo td ev hd kp ca q (.s (lC e).1) (lC e).2.1 (lC e).2.2) ([(hd,.l (hl.map .b)),(kp,.l (K.map gP))]++R) (λU=>mJ Y.sa c ky gn lo td ev hd kp ca q (.s (lC e).1) (lC e).2.1 (lC e).2.2) (λU=>[(hd,.l (hl.map .b)),(kp,.l ((K++[e]).map gP))]++R):=by
 have a:(K.map gP).length<lim:=by rw[aB];exact f
 rw[aH,show[e].map gP=[.t [.s (lC e).1,(lC e).2.1,(lC e).2.2]]from congrArg (λv=>[v]) (yE e)];cases hc:c.cm with
 |true=>exact acu h h1 hc a
 |false=>exact acs h h1 hc () a
theorem ZC{hd kp:Nat}{K:List E5}{e:E5}(h:hl.contains true=false)(o:K.length<1000)(hk:(lC e).1="data"->K≠[])(k:∀y x,jO K=some y->e=.dat x->y.length+x.length<=lim):PX (dK Y) 146 (dZ Y 195) ((jV Y).drop 1) ((jV Y).drop 2) (mJ Y.sa c ky gn lo td ev hd kp ca q (.s (lC e).1) (lC e).2.1 (lC e).2.2) ([(hd,.l (hl.map .b)),(kp,.l (K.map gP))]++R) (λU=>mJ Y.sa c ky gn lo td ev hd kp ca q (.s (lC e).1) (lC e).2.1 (lC e).2.2) (λU=>[(hd,.l (hl.map .b)),(kp,.l ((lJ c K e).map gP))]++R):=by
 have d:K.length<lim:=cA o ();cases e with
 |told p u=>exact Av h d kd1.1 (.inr kd1.2)
 |start t m a=>exact Av h d kd2.1 (.inr kd2.2)
 |fin t=>exact Av h d kd3.1 (.inr kd3.2)
 |pi x=>exact Av h d kd4.1 (.inr kd4.2)
 |com x=>
  show PX _ _ _ _ _ _ _ _ λU=>[(hd,.l (hl.map .b)),(kp,.l ((bif c.cm then K++[.com x]else K).map gP))]++R;cases hc:c.cm with
  |true=>exact Av h d kd5 (.inl hc)
  |false=>exact agT h hc
 |dat x=>
  obtain⟨K0,e0,rfl⟩:=lH K (hk rfl);have f:((K0++[e0]).map gP).length<lim:=by rw[aB];exact d
  have g:atIdx ((K0++[e0]).map gP) (-1)=some (.t [.s (lC e0).1,(lC e0).2.1,(lC e0).2.2]):=by
   rw[aH];exact gQ.trans (congrArg some (yE e0))
  show PX _ _ _ _ _ _ _ _ λU=>[(hd,.l (hl.map .b)),(kp,.l ((oJ (K0++[e0]) x).map gP))]++R;unfold oJ;unfold jO at k ⊢;rw[List.getLast?_concat]at k ⊢;have app:∀_,PX (dK Y) 146 (dZ Y 195) ((jV Y).drop 1) ((jV Y).drop 2) (mJ Y.sa c ky gn lo td ev hd kp ca q (.s "data") (.s x) .n) _ _ (λU=>[(hd,.l (hl.map .b)),(kp,.l ((K0++[e0]++[E5.dat x]).map gP))]++R):=λi=>by
   rw[aH];cases hc:c.cm with
   |true=>exact acw h g i hc f
   |false=>exact acv h g i hc f
  cases e0 with
  |dat y=>
   have:=agR (Y:=Y) (c:=c) (q:=q) (R:=R) (ky:=ky) (gn:=gn) (lo:=lo) (td:=td) (ev:=ev) (hd:=hd) (kp:=kp) (ca:=ca) (x:=x) (m:=.n) h g (k y x rfl rfl) ⟨by rw[aH];exact List.append_ne_nil_of_right_ne_nil _ (dG _ _),cj f⟩;rw[aH,cC,List.map_nil,List.dropLast_concat]at this;show PX _ _ _ _ _ _ _ _ λU=>[(hd,.l (hl.map .b)),(kp,.l (((K0++[E5.dat y]).dropLast++[E5.dat (y++x)]).map gP))]++R;rw[List.dropLast_concat,aH (l₂:=[E5.dat (y++x)]),aH];exact this
  |told p u=>exact app kd1.1
  |start t m a=>exact app kd2.1
  |fin t=>exact app kd3.1
  |com y=>exact app kd5
  |pi y=>exact app kd4.1
end
section
variable {t t2:T5} {R Y7:LH} {n:Nat}
def HL(c:Cf)(q:Q)(n0:List V)(hd kp ca gn:Nat)(X:LH)(t:T5)(hl:List Bool)(K:List E5):LH:=[(hd,.l (hl.map .b)),(kp,.l (K.map gP)),(ca,.d (gk q)),(gn,.l (g8.map .s))]++(tg c q (t.s c n0)++(t.R c++X))
def qt(a b d:LH):(a++(b++d)).Perm (b++(a++d)):=List.perm_append_comm_assoc a b d
def pA(a b d e:LH):(a++(b++(d++e))).Perm (b++(d++(a++e))):=(qt a b _).trans (.append_left b (qt a d e))
def yL(hd kp gn:Nat)(hl:List Bool)(K:List E5):LH:=[(hd,.l (hl.map .b)),(kp,.l (K.map gP)),(gn,.l (g8.map .s))]
def u0{g:V}(h:CC (dK Y) m g args [] (tg c q (t.s c n0)++(t.R c++(Y7++X))) (λU=>.n) (λU=>tg c q (t2.s c n0)++(t2.R c++(Y7++X)))):CC (dK Y) m g args [] ([]++(Y7++(tg c q (t.s c n0)++(t.R c++X)))) (λU=>.n) (λU=>[]++(Y7++(tg c q (t2.s c n0)++(t2.R c++X)))):=ZZ.perm h (pA Y7 _ _ X) λU=>pA Y7 _ _ X
section
variable {hd kp:Nat} {K:List E5} {e:E5}
def oK:(HL c q n0 hd kp ca gn X t hl K).Perm ([(ca,.d (gk q))]++(yL hd kp gn hl K++(tg c q (t.s c n0)++(t.R c++X)))):=cG (l₁:=[(hd,dN.l _),(kp,.l _)])
abbrev Qn(sa:Addr)(c:Cf)(ky gn lo td ev hd kp ca:Nat)(q:Q)(e:E5):Loc:=mJ sa c ky gn lo td ev hd kp ca q (.s (lC e).1) (lC e).2.1 (lC e).2.2
abbrev S0(Y:Z)(c:Cf)(ky gn lo td ev hd kp ca:Nat)(q:Q)(n0:List V)(X X2:LH)(e:E5)(t:T5)(hl:List Bool)(K:List E5)(t2:Pl->T5)(a:List Bool):Prop:=PX (dK Y) 146 (dZ Y 195) (jV Y) ((jV Y).drop 1) (Qn Y.sa c ky gn lo td ev hd kp ca q e) (HL c q n0 hd kp ca gn X t hl K) (λU=>Qn Y.sa c ky gn lo td ev hd kp ca q e) (λx=>HL c q n0 hd kp ca gn X2 (t2 x) a K)
def KJ(h:CC (dK Y) 46 (.m 133 (.r q.i)) [.s x] [] (tg c q (t.s c n0)++(t.R c++(yL hd kp gn hl K++X))) (λU=>.n) (λU=>tg c q (t2.s c n0)++(t2.R c++(yL hd kp gn hl K++X)))):S0 Y c ky gn lo td ev hd kp ca q n0 X X (.com x) t hl K (λU=>t2) hl:=(Yq (u0 h)).perm oK λU=>oK
def TJ(x:Str):g8.contains x=gone.contains x:=by
 show(x=="{u}x"||(x=="{v}x"||false))=(x=="{v}x"||(x=="{u}x"||false));rw[Bool.or_false,Bool.or_false,Bool.or_comm]
def Tc(a:fO at'):iu (xO (wH (dO at')))=wH (dO at'.reverse):=by
 have e:xO (wH (dO at'))=(wH (dO at'.reverse)).map λp=>V.t [.s p.1,p.2]:=by
  unfold xO;rw[qg];unfold wH dO;rw[dD,dD,dD]
 rw[e];refine jG ?_;unfold wH dO;rw[aR,aR,dD];exact(List.reverse_perm _).nodup_iff.mpr a.nd
def Ym(a:fO at'):(xO (wH (dO at'))).all I3=true/\(xO (wH (dO at'))).length<=1000:=by
 unfold xO;rw[qg];refine⟨List.all_eq_true.mpr λx b=>?_,?_⟩
 obtain⟨p,_,rfl⟩:=aF (List.mem_reverse.mp b);rfl
 unfold wH dO;rw[cW,aB,aB,aB];have:=a.len;lia
def fO.rev(a:fO at'):fO at'.reverse:=⟨by rw[dD];exact(List.reverse_perm _).nodup_iff.mpr a.nd,λp hp=>a.mem p (List.mem_reverse.mp hp),by rw[cW];exact a.len,λp hp=>a.val p (List.mem_reverse.mp hp)⟩
theorem zL{t2:Pl->T5}(j:fO at')(o:hl.length<1000)(h:∀g,CC (dK Y) 91 (.m 113 (.r q.i)) [.s nm.q,.r g] [] (tg c q (t.s c n0)++[(g,fG (dO at'.reverse))]++(t.R c++([(kp,.l (K.map gP)),(ca,.d (gk q))]++X))) (λU=>.n) (λx=>tg c q ((t2 x).s c n0)++((t2 x).R c++([(kp,.l (K.map gP)),(ca,.d (gk q))]++X)))):S0 Y c ky gn lo td ev hd kp ca q n0 ((m,fG (dO at'))::X) ((m,fG (dO at'))::X) (.start nm m at') t hl K t2 (hl++[gone.contains nm.q]):=by
 have h1:(wH (dO at')).length<=1000:=by
  unfold wH dO;rw[aB,aB];have:=j.len;lia
 have k:=acy (Y:=Y) (c:=c) (q:=q) (ky:=ky) (gn:=gn) (lo:=lo) (td:=td) (ev:=ev) (hd:=hd) (kp:=kp) (ca:=ca) (m:=m) (R2:=λx=>tg c q ((t2 x).s c n0)++((t2 x).R c++([(kp,.l (K.map gP)),(ca,.d (gk q))]++X))) h1 (Ym j) (by rw[aB];exact cA o ()) λg=>by rw[Tc j];exact h g
 have p5:∀(a b d e f:Nat×dN),([a,b,d,e]++(f::X)).Perm ([f,e,a]++([b,d]++X)):=λa b d e f=>((c7 (l₁:=[a,b,d]) (l₂:=[e,f])).trans (.swap ..)).append_right X;refine k.perm ?_ λx=>?_
 rw[aQ (tg c q _)];refine(pA _ _ _ _).trans (List.Perm.append_left _ ?_);exact(List.Perm.append_left _ (p5 ..)).trans (qt _ _ _)
 show([(hd,dN.l _),_,_,(gn,.l _)]++(tg c q ((t2 x).s c n0)++((t2 x).R c++((m,fG _)::X)))).Perm _;rw[aH,TJ];refine(pA _ _ _ _).trans (List.Perm.trans ?_ (pA _ _ _ _).symm);exact List.Perm.append_left _ (List.Perm.append_left _ (p5 ..))
theorem s12(hk:K.length<1000)(n:hl.length<1000)(h:hl.contains true=false->((lC e).1="data"->K≠[])/\∀y x,jO K=some y->e=.dat x->y.length+x.length<=lim):XP (dK Y) 146 (dZ Y 195) (Qn Y.sa c ky gn lo td ev hd kp ca q e) ((jV Y).drop 1) (HL c q n0 hd kp ca gn X t hl K) λfl J l=>fl=.next/\∃a,J=Qn Y.sa c ky gn lo td ev a kp ca q e/\l=HL c q n0 a kp ca gn X t (bif(lC e).1=="end" then hl.dropLast else hl) (bif hl.contains true then K else lJ c K e):=by
 have h1:PX (dK Y) 146 (dZ Y 195) ((jV Y).drop 1) ((jV Y).drop 2) (Qn Y.sa c ky gn lo td ev hd kp ca q e) (HL c q n0 hd kp ca gn X t hl K) (λU=>Qn Y.sa c ky gn lo td ev hd kp ca q e) (λU=>HL c q n0 hd kp ca gn X t hl (bif hl.contains true then K else lJ c K e)):=by
  cases hc:hl.contains true with
  |true=>exact agS hc
  |false=>obtain⟨r,p⟩:=h hc;exact ZC hc hk r p
 refine h1.QK λu=>?_;generalize (bif hl.contains true then K else lJ c K e)=f;have nil:∀{J:Loc} {L:LH} {Q:Fl->Loc->LH->Prop},Q .next J L->XP (dK Y) 146 (dZ Y 195) J (((jV Y).drop 2).drop 1) L Q:=λj U P H o=>⟨_,_,_,H,j,jP,.refl o⟩;cases he:(lC e).1=="end" with
 |true=>
  have i:(lC e).1="end":=beq_iff_eq.mp he;have k:=agQ (Y:=Y) (c:=c) (q:=q) (R:=[(kp,.l (f.map gP)),(ca,.d (gk q)),(gn,.l (g8.map .s))]++(tg c q (t.s c n0)++(t.R c++X))) (ky:=ky) (gn:=gn) (lo:=lo) (td:=td) (ev:=ev) (hd:=hd) (kp:=kp) (ca:=ca) (w:=(lC e).2.1) (m:=(lC e).2.2) (xs:=hl.map .b) (by rw[aB];exact aK (cj n) ());rw[Bl,<- List.map_dropLast,<- i]at k;exact k.QK λg=>nil ⟨rfl,g 0,rfl,rfl⟩
 |false=>exact(agP (R:=HL c q n0 hd kp ca gn X t hl f) he).QK λg=>nil ⟨rfl,hd,rfl,rfl⟩
end
end
section
variable {t:T5} {n:Nat} {K:List E5} {st:List N5×Bool}
noncomputable def ps0:PS:=⟨cJ,false,[],[]⟩
abbrev d9(c:Cf)(K:List E5):PS:=K.foldl (PS.step c) ps0
def fB(e:E5):d9 c (K++[e])=PS.step c (d9 c K) e:=by unfold d9;rw[cU];rfl
structure KI (c:Cf) (t:T5) (K:List E5) (st:List N5×Bool) (hl:List Bool):Prop where
 path:t.p=(d9 c K).path
 A:t.A=(d9 c K).A
 se:t.se=(d9 c K).seen
 due:(d9 c K).due=cat t.out++(if t.fs=[]then cJ else eV (pZ c (iD t.p) (cat t.da)))
 ld:∀K0 x,K=K0++[.dat x]->t.fs≠[]->cat t.da=x/\(d9 c K0).due=cat t.out
 nl:t.fs≠[]->jO K=none->t.da=[]
 hid:∃hb:List Bool,hl=List.replicate t.fs.length false++hb/\hb.length=t.ig/\(hb=[]\/hb.head?=some true)
 stk:∃hs:List N5,st.1=hs++t.p.map (·.t)/\hs.length=t.ig
 beg:st.2=t.se
 dn:t.dn=(t.se&&t.fs.isEmpty)
 sf:t.fs≠[]->t.se=true
 ih:t.ig≠0->t.fs≠[]
def lK:eV cJ=cJ:=by decide+kernel
def pY:pZ c pb cJ=cJ:=by
 have e:(pZ c pb cJ).length=0:=by
  unfold pZ;cases c.st&&!pb with
  |true=>rfl
  |false=>rfl
 exact jQ e
def Vi(y:Str):cat (Az true y)=eV y:=by
 unfold Az;by_cases h:y.length=0
 rw[jQ h];exact lK.symm
 rw[show(y.length !=0)=true from bne_iff_ne.mpr h];exact jj _
def KI.jd(k:KI c t K st hl)(hf:t.fs≠[]):(d9 c K).due=cat (t.jd c).out:=by
 show _=cat (t.out++Az t.se _);rw[k.due,if_neg hf,jk,k.sf hf,Vi]
def KI.YC(k:KI c t K st hl):t.fs≠[]↔(d9 c K).path≠[]:=by
 rw[<- k.path];exact⟨λh e=>h (List.map_eq_nil_iff.mp e),λh e=>h (by unfold T5.p;rw[e];rfl)⟩
def KI.hc(k:KI c t K st hl):hl.contains true=!(t.ig==0):=by
 obtain⟨hb,rfl,d,a⟩:=k.hid;have e:(List.replicate t.fs.length false++hb).contains true=hb.contains true:=by
  induction t.fs.length with
  |zero=>rfl
  |succ n ih=>exact ih
 rw[e];cases hb with
 |nil=>rw[<- d];rfl
 |cons b hb=>
  have:b=true:=by
   rcases a with a|a
   lia
   injection a
  rw[this,<- d];rfl
def Dp{e:E5}:(∀x,e≠.dat x)->jO (K++[e])=none:=λh=>by
 unfold jO;rw[List.getLast?_concat];cases e with
 |dat x=>exact absurd rfl (h x)
 |_=>rfl
def wF:jO (K++[.dat x])=some x:=by
 unfold jO;rw[List.getLast?_concat];rfl
def lW(h:jO K=some y):K=K.dropLast++[.dat y]:=by
 cases hK:K with
 |nil=>rw[hK]at h;exact gB h
 |cons a l=>
  obtain⟨K0,e,h0⟩:=lH K (by rw[hK];exact dG _ _);rw[<- hK,h0,List.dropLast_concat];rw[h0]at h;unfold jO at h;rw[List.getLast?_concat]at h;cases e with
  |dat x=>cases h;rfl
  |_=>exact gB h
def jE{a b:E5}(h:K++[a]=K0++[b]):K=K0/\a=b:=by
 obtain⟨h1,c⟩:=List.append_inj' h rfl;exact⟨h1,by injection c⟩
def mV(p:PS)(x:Str):(PS.step c p (.dat x)).path=p.path/\(PS.step c p (.dat x)).A=p.A/\(PS.step c p (.dat x)).seen=p.seen:=by
 show(if p.path=[]then p else _).path=_/\(if p.path=[]then p else _).A=_/\(if p.path=[]then p else _).seen=_;by_cases h:p.path=[]
 ·rw[if_pos h];exact⟨rfl,rfl,rfl⟩
 ·rw[if_neg h];exact⟨rfl,rfl,rfl⟩
theorem Zz(k:KI c t K st hl)(hi:t.ig=0)(x:Str):KI c (t.txt x) (oJ K x) (stE st (.dat x)) hl:=by
 rw[show t.txt x={t with da:=t.da++[x]}from if_neg λq=>q hi];have b:cat (t.da++[x])=cat t.da++x:=by rewrite [jk,jj];rfl
 unfold oJ;cases hL:jO K with
 |none=>
  show KI c _ (K++[.dat x]) st hl;obtain⟨s1,s2,s3⟩:=mV (c:=c) (d9 c K) x;have d:t.fs≠[]->t.da=[]:=λhf=>k.nl hf hL
  have g:t.fs≠[]->(d9 c K).due=cat t.out:=λhf=>by
   rw[k.due,if_neg hf,d hf];show _++eV (pZ c _ cJ)=_;rw[pY,lK,dz]
  refine⟨by rw[fB,s1];exact k.path,by rw[fB,s2];exact k.A,by rw[fB,s3];exact k.se,?_,λK0 z hz hf=>?_,λhf e=>?_,k.hid,k.stk,k.beg,k.dn,k.sf,k.ih⟩
  ·rw[fB];show(if(d9 c K).path=[]then d9 c K else _).due=_;by_cases hf:t.fs=[]
   ·rw[if_pos (Decidable.not_not.mp λq=>k.YC.mpr q hf),if_pos hf];have:=k.due;rw[if_pos hf]at this;exact this
   ·rw[if_neg (k.YC.mp hf),if_neg hf];show(d9 c K).due++eV (pZ c (iD (d9 c K).path) x)=cat t.out++eV (pZ c (iD t.p) (cat (t.da++[x])));rw[g hf,b,d hf,k.path];show _=_++eV (pZ c _ (cJ++x));rw[dh]
  ·obtain⟨rfl,i⟩:=jE hz;cases i;refine⟨?_,g hf⟩;show cat (t.da++[x])=x;rw[b,d hf];exact dh x
  ·rw[wF]at e;exact gB e.symm
 |some y=>
  have l:=lW hL;show KI c _ (K.dropLast++[.dat (y++x)]) st hl;generalize K.dropLast=K0 at l ⊢;subst l;obtain⟨s1,s2,s3⟩:=mV (c:=c) (d9 c K0) y;obtain⟨o,m,n⟩:=mV (c:=c) (d9 c K0) (y++x);have hp:=k.path;have h:=k.A;have j:=k.se;have a:=k.YC;have hd:=k.due;rw[fB]at hp h j a hd;rw[s1]at hp a;rw[s2]at h;rw[s3]at j;refine⟨by rw[fB,o];exact hp,by rw[fB,m];exact h,by rw[fB,n];exact j,?_,λr z hz hf=>?_,λhf e=>?_,k.hid,k.stk,k.beg,k.dn,k.sf,k.ih⟩
  ·rw[fB];show(if(d9 c K0).path=[]then d9 c K0 else _).due=_;have hd:(if(d9 c K0).path=[]then d9 c K0 else _).due=_:=hd;by_cases hf:t.fs=[]
   ·have f:(d9 c K0).path=[]:=Decidable.not_not.mp λq=>a.mpr q hf;rw[if_pos f,if_pos hf]at hd;rw[if_pos f,if_pos hf];exact hd
   ·rw[if_neg (a.mp hf),if_neg hf];obtain⟨l1,l2⟩:=k.ld K0 y rfl hf;show(d9 c K0).due++eV (pZ c (iD (d9 c K0).path) (y++x))=cat t.out++eV (pZ c (iD t.p) (cat (t.da++[x])));rw[l2,b,l1,hp]
  ·obtain⟨rfl,i⟩:=jE hz;cases i;obtain⟨l1,l2⟩:=k.ld _ y rfl hf;exact⟨by show cat (t.da++[x])=y++x;rw[b,l1],l2⟩
  ·rw[wF]at e;exact gB e.symm
theorem Zx(k:KI c t K st hl)(hi:t.ig=0){e:E5}{m:Str}(i:∀p,PS.step c p e=p.mk' m)(o:stE st e=st)(l:∀x,e≠.dat x):KI c (t.say c m) (K++[e]) (stE st e) hl:=by
 rw[o];have f:∀K0 x,K++[e]≠K0++[.dat x]:=λK0 x q=>l x (jE q).2;have hp:(d9 c (K++[e])).path=(d9 c K).path:=by rw[fB,i];rfl
 have j:(d9 c (K++[e])).A=(d9 c K).A:=by rw[fB,i];rfl
 have h:(d9 c (K++[e])).seen=(d9 c K).seen:=by rw[fB,i];rfl
 have g:(d9 c (K++[e])).due=(d9 c K).due++(if(d9 c K).path≠[]then m else if(d9 c K).seen=true then"\n"++m else m++"\n"):=by rw[fB,i];rfl
 unfold T5.say;rw[if_neg λq=>q hi];by_cases a:t.dn=true
 rw[if_pos a];have h0:=k.dn;rw[a]at h0;obtain⟨h1,n⟩:=aZ h0.symm;have hf:=List.isEmpty_iff.mp n;refine⟨by rw[hp];exact k.path,by rw[j];exact k.A,by rw[h];exact k.se,?_,λU U q=>absurd q (f _ _),λq=>absurd hf q,k.hid,k.stk,k.beg,k.dn,k.sf,k.ih⟩;have kd:=k.due;rw[if_pos hf,dz]at kd;rw[g,if_neg (λq=>k.YC.mpr q hf),if_pos (by rw[<- k.se];exact h1),if_pos hf,dz,kd];change _=cat _;rewrite [jk,jk,jj,jj,dj];rfl
 rw[if_neg a];have a:t.dn=false:=by lia
 by_cases b:t.se=true
 rw[if_pos b];have hf:t.fs≠[]:=λq=>by
  have:=k.dn;rw[a,b,q]at this;exact iC this
 refine⟨by rw[hp];exact k.path,by rw[j];exact k.A,by rw[h];exact k.se,?_,λU U q=>absurd q (f _ _),λU U=>rfl,k.hid,k.stk,k.beg,k.dn,k.sf,k.ih⟩;rw[g,if_pos (k.YC.mp hf),k.jd hf];change _=cat ((t.jd c).out++[m])++(if t.fs=[]then _ else eV (pZ c _ (cat [])));rewrite [if_neg hf,show cat []=cJ from rfl,pY,lK,dz,jk,jj];rfl
 rw[if_neg b];have hf:=Decidable.not_not.mp λq=>b (k.sf q);refine⟨by rw[hp];exact k.path,by rw[j];exact k.A,by rw[h];exact k.se,?_,λU U q=>absurd q (f _ _),λq=>absurd hf q,k.hid,k.stk,k.beg,k.dn,k.sf,k.ih⟩;have kd:=k.due;rw[if_pos hf,dz]at kd;rw[g,if_neg (λq=>k.YC.mpr q hf),if_neg (by rw[<- k.se];exact b),if_pos hf,dz,kd];change _=cat _;rewrite [jk,jk,jj,jj,dj];rfl
theorem Tg(k:KI c t K st hl)(hi:t.ig=0)(hf:t.fs≠[]\/t.da=[]):KI c (t.told c (u,p)) (K++[.told p u]) st hl:=by
 have g:∀K0 x,K++[.told p u]≠K0++[.dat x]:=λK0 x q=>nomatch(jE q).2;have f:d9 c (K++[.told p u])=d9 c K:=fB _;rw[show t.told c (u,p)=(t.jd c).mO _ from if_neg λq=>q hi];obtain⟨_,j,v,o⟩:=Qe (c:=c) _;have d:((t.jd c).mO (u,p)).fs=[]↔t.fs=[]:=by
  rw[<- List.length_eq_zero_iff,o];exact List.length_eq_zero_iff
 have ar:((t.jd c).mO (u,p)).se=t.se/\((t.jd c).mO (u,p)).dn=t.dn/\((t.jd c).mO (u,p)).ig=t.ig/\((t.jd c).mO (u,p)).da=[]/\((t.jd c).mO (u,p)).out=(t.jd c).out:=by
  obtain⟨fs,A,b,lv,nv,out,da,se,dn,ig⟩:=t
  cases fs <;> exact⟨rfl,rfl,rfl,rfl,rfl⟩
 obtain⟨r1,s,i,n,r⟩:=ar;have m:((t.jd c).mO (u,p)).fs.isEmpty=t.fs.isEmpty:=by
  cases e1:((t.jd c).mO _).fs with
  |nil=>rw[d.mp e1]
  |cons a l=>
   cases e2:t.fs with
   |nil=>lia
   |cons=>rfl
 refine⟨by rw[f,j];exact k.path,by rw[f,v];exact k.A,by rw[f,r1];exact k.se,?_,λU U q=>absurd q (g _ _),λU U=>n,?_,?_,by rw[r1];exact k.beg,by rw[r1,s,m];exact k.dn,λq=>by rw[r1];exact k.sf λz=>q (d.mpr z),λq=>by rw[i]at q;exact absurd hi q⟩
 rw[f,r,n];by_cases hz:t.fs=[]
 rw[if_pos (d.mpr hz),pW (hf.resolve_left λq=>q hz)];have:=k.due;rw[if_pos hz]at this;exact this
 rw[if_neg (λq=>hz (d.mp q)),show cat []=cJ from rfl,pY,lK];exact k.jd hz
 rw[i,show((t.jd c).mO _).fs.length=t.fs.length from o];exact k.hid
 rw[i,j];exact k.stk
end
section
variable {t:T5} {n:Nat} {K:List E5} {st:List N5×Bool}
def rq(p:N5×Str):Nat:=Ak.idxOf p.1.q
def MF:∀a∈Ak,∀b∈Ak,a≠b->Ak.idxOf a≠Ak.idxOf b/\Im a b=decide (Ak.idxOf a<Ak.idxOf b):=by decide+kernel
def afJ(h:fO l):∀a∈l,∀b∈l,a≠b->a.1.q≠b.1.q:=by
 have g:=h.nd;clear h
 induction l with
 |nil=>exact λU h=>nomatch h
 |cons p l ih=>
  rw[cC,cB]at g;intro a i b hb d;rcases aA i with rfl|f
  ·rcases aA hb with rfl|c
   ·exact absurd rfl d
   ·exact λe=>g.1 (e▸aJ c)
  ·rcases aA hb with rfl|c
   ·exact λe=>g.1 (e▸aJ f)
   ·exact ih g.2 a f b c d
def W3(h:fO l):l.Nodup:=(List.pairwise_map.mp h.nd).imp λa e=>a (by rw[e])
def mX(h:fO l):(jT l).Perm l/\(jT l).Pairwise λa b=>rq a<rq b:=
 mW (W3 h) (aK h.len ()) λa d b hb c=>by
  have e:=afJ h a d b hb c;obtain⟨k1,k2⟩:=MF a.1.q (aJ (h.mem a d)) b.1.q (aJ (h.mem b hb)) e;exact⟨k1,(if_neg e).trans k2⟩
def Cm{l l2:List (N5×Str)}(h:fO l)(hp:l2.Perm l)(f:l2.Pairwise λa b=>rq a<rq b):jT l=l2:=by
 obtain⟨h1,e⟩:=mX h;exact List.Perm.eq_of_pairwise (le:=λa b=>rq a<rq b) (λa b U U e d=>absurd e (Nat.lt_asymm d)) e f (h1.trans hp.symm)
def fO.perm{l l2:List (N5×Str)}(h:fO l)(hp:l2.Perm l):fO l2:=⟨(hp.map _).nodup_iff.mpr h.nd,λp q=>h.mem p (hp.mem_iff.mp q),by rw[hp.length_eq];exact h.len,λp q=>h.val p (hp.mem_iff.mp q)⟩
def Kg{l l2:List (N5×Str)}(h:fO l)(hp:l2.Perm l):jT l2=jT l:=by
 obtain⟨h1,a⟩:=mX h;exact Cm (h.perm hp) (h1.trans hp.symm) a
def pF{l l2:List (N5×Str)}(hp:l2.Perm l):(fY c l2).Perm (fY c l):=hp.filter _
def oh{α:Type}[BEq α][LawfulBEq α]{l l2:List α}(hp:l2.Perm l)(x:α):l2.contains x=l.contains x:=by
 rw[Bool.eq_iff_iff,cI,cI];exact hp.mem_iff
def Lr{m:N5}{l l2:List (N5×Str)}(hp:l2.Perm l):Gh c m l2=Gh c m l:=by
 exact congrArg iz.filter (funext λx=>oh (((pF hp).map _).cons _) _)
def JH{m:N5}{l l2:List (N5×Str)}(hp:l2.Perm l):lg c m l2=lg c m l:=by
 exact congrArg (λf=>List.filter f _) (funext λx=>by rw[oh (((pF hp).map _).cons _)])
def Mx(h:fO l):((dO l).map (·.1)).Nodup:=by rw[Am];exact h.nd
def Ia{l l2:List (N5×Str)}(h:fO l)(hp:l2.Perm l):t.push c nm l2 lv nv=t.push c nm l lv nv:=by
 have b:t.x c nm l2=t.x c nm l:=by unfold T5.x;rw[Lr hp]
 have a:∀x,gR c x (fY c l2)=gR c x (fY c l):=λx=>by unfold gR;rw[Kg (h.fY c) (pF hp)]
 have d:(dO _).lookup mD=(dO _).lookup mD:=uw (Mx (h.fY c)) ((pF hp).map _) _;unfold T5.push;rw[b,a,d,JH hp]
theorem Tj(k:KI c t K st hl)(hi:t.ig=0)(j:t.fs=[]->t.se=false):KI c ((t.jd c).push c nm at' lv nv) (K++[.start nm m at']) (stE st (.start nm m at')) (hl++[false]):=by
 have f:∀K0 x,K++[.start nm m at']≠K0++[.dat x]:=λK0 x q=>nomatch(jE q).2;have i:sx c (d9 c K) nm at'=(t.jd c).x c nm at':=by
  unfold sx;rw[<- k.path,<- k.A];rfl
 have a:d9 c (K++[.start nm m at'])=(d9 c K).start c nm at':=fB _;have g:(d9 c K).due=cat (t.jd c).out:=by
  by_cases hf:t.fs=[]
  have:=k.due;rw[if_pos hf]at this;rw[this];change _=cat (t.out++Az t.se _);rw[j hf];unfold Az;rw[Bool.and_false];exact(congrArg cat (aX _)).symm
  exact k.jd hf
 obtain⟨hb,h1,l,r⟩:=k.hid;obtain⟨n,s1,s2⟩:=k.stk;have b:=List.length_eq_zero_iff.mp (l.trans hi);have d:=List.length_eq_zero_iff.mp (s2.trans hi);subst b d;refine⟨?_,by rw[a];exact(congrArg Prod.snd i).symm,by rw[a];rfl,?_,λU U q=>absurd q (f _ _),λU U=>rfl,⟨[],?_,hi.symm,.inl rfl⟩,⟨[],?_,hi.symm⟩,rfl,?_,λU=>rfl,λq=>absurd hi q⟩
 rw[a];change _::t.p=_::(d9 c K).path;rw[i,<- k.path];rfl
 rw[a];show(d9 c K).due++w7 _ (gR c _ _)=cat ((t.jd c).out++Qh _ _)++(if(_::t.fs)=[]then _ else eV (pZ c _ (cat [])));rewrite [i,g,if_neg (),show cat []=cJ from rfl,pY,lK,dz,jk,QS];rfl
 rw[h1,aX,aX];change _=List.replicate (t.fs.length+1) false;rw[List.replicate_succ']
 show nm::st.1=[]++(nm::t.p.map _);rw[s1];rfl
 show t.dn=(true&&false);have:=k.dn;by_cases hf:t.fs=[]
 lia
 rw[this];cases he:t.fs with
 |nil=>lia
 |cons=>exact Bool.and_false _
theorem Ti(k:KI c t K st hl)(hb:t.ig≠0\/b=true)(hf:t.fs≠[]):KI c {t with ig:=t.ig+1} K (stE st (.start nm m at')) (hl++[b]):=by
 obtain⟨e,h1,d,a⟩:=k.hid;obtain⟨f,s1,s2⟩:=k.stk;refine⟨k.path,k.A,k.se,k.due,k.ld,k.nl,⟨e++[b],by rw[h1,aQ],by rw[aC,d];rfl,.inr ?_⟩,⟨nm::f,by show nm::st.1=_;rw[s1];rfl,congrArg _ s2⟩,(k.sf hf).symm,k.dn,k.sf,λU=>hf⟩;rcases a with rfl|a
 rw[hb.resolve_left λq=>q d.symm];rfl
 rw[List.head?_append,a];rfl
theorem Iz(k:KI c t K st hl)(hi:t.ig≠0):KI c {t with ig:=t.ig-1} K (stE st (.fin nm)) hl.dropLast:=by
 obtain⟨e,h1,f,h⟩:=k.hid;obtain⟨g,s1,s2⟩:=k.stk;refine⟨k.path,k.A,k.se,k.due,k.ld,k.nl,⟨e.dropLast,by rw[h1,List.dropLast_append_of_ne_nil (λq=>hi (by rw[<- f,q];rfl))],by rw[List.length_dropLast,f],?_⟩,?_,k.beg,k.dn,k.sf,λU=>k.ih hi⟩
 cases e with
 |nil=>exact .inl rfl
 |cons a l=>
  cases l with
  |nil=>exact .inl rfl
  |cons b l=>exact .inr (h.resolve_left ())
 cases g with
 |nil=>exact absurd s2.symm hi
 |cons a l=>exact⟨l,by show st.1.tail=_;rw[s1];rfl,by rw[<- s2];rfl⟩
theorem Zy(k:KI c t K st hl)(hi:t.ig=0)(hf:t.fs≠[]):KI c (t.close c) (K++[.fin nm]) (stE st (.fin nm)) hl.dropLast:=by
 have u:=Dp (K:=K) (e:=.fin nm) λx h=>nomatch h;have l:∀K0 x,K++[.fin nm]≠K0++[.dat x]:=λK0 x q=>nomatch(jE q).2;have d:=k.sf hf;have m:=k.jd hf;obtain⟨hb,h1,p,u⟩:=k.hid;obtain⟨n,s1,s2⟩:=k.stk;have i:hb=[]:=List.length_eq_zero_iff.mp (p.trans hi);have j:n=[]:=List.length_eq_zero_iff.mp (s2.trans hi);subst i j;have g:d9 c (K++[.fin nm])=PS.step c (d9 c K) (.fin nm):=fB _;have hp:=k.path;have o:=k.A;have n:=k.se;obtain⟨fs,A,b,lv,nv,out,da,se,dn,ig⟩:=t;cases fs with
 |nil=>exact absurd rfl hf
 |cons f fs=>
  have a:PS.step c (d9 c K) (.fin nm)={d9 c K with due:=(d9 c K).due++nq f.r.f,path:=fs.map (·.r)}:=by
   show(d9 c K).path.head?.elim _ _=_;rw[<- hp];rfl
  have hc:(T5.close ⟨f::fs,A,b,lv,nv,out,da,se,dn,ig⟩ c)=⟨fs,A,b,f.lv,f.nv,(T5.jd ⟨f::fs,A,b,lv,nv,out,da,se,dn,ig⟩ c).out++[nq f.r.f],[],se,fs.isEmpty,ig⟩:=if_neg λq=>q hi;rw[hc];refine⟨by rw[g,a],by rw[g,a];exact o,by rw[g,a];exact n,?_,λU U q=>absurd q (l _ _),λU U=>rfl,⟨[],?_,hi.symm,.inl rfl⟩,⟨[],?_,hi.symm⟩,k.beg,?_,λU=>d,λq=>absurd hi q⟩
  ·rw[g,a];show(d9 c K).due++nq f.r.f=cat ((T5.jd ⟨f::fs,A,b,lv,nv,out,da,se,dn,ig⟩ c).out++[nq f.r.f])++(if fs=[]then _ else eV (pZ c _ (cat [])));rw[m,jk,jj];by_cases h0:fs=[]
   ·rw[if_pos h0,dz]
   ·rw[if_neg h0,show cat []=cJ from rfl,pY,lK,dz]
  ·rw[h1,aX,aX];show(List.replicate (fs.length+1) false).dropLast=_;rw[List.replicate_succ',List.dropLast_concat]
  ·show st.1.tail=[]++(fs.map (·.r)).map (·.t);rw[s1];rfl
  ·show fs.isEmpty=(se&&fs.isEmpty);rw[show se=true from d];rfl
end
section
section
variable {n:Nat} {K:List E5} {p:PS} {e:E5}
def Ql(D:LH)(n:Nat)(p:PS):E5->Prop
 |.told _ _=>True
 |.start t m at'=>t∈iz/\fO at'/\(∀p∈at',p.2.length<20)/\(m,fG (dO at'))∈D
 |.fin _=>p.path≠[]
 |.com x=>x.length<=3
 |.pi x=>∀y,x=some y->y.length<=3
 |.dat x=>x.length<=3*n
def KW(c:Cf)(D:LH)(n:Nat)(K:List E5):Prop:=∀K0 e a,K=K0++e::a->Ql D n (d9 c K0) e
def YM(h:n<=m):Ql D n p e->Ql D m p e:=by
 cases e with
 |dat x=>exact λq=>aK q (Nat.mul_le_mul_left 3 h)
 |_=>exact id
def KW.up(w:KW c D n K)(h:n<=m):KW c D m K:=λK0 e a q=>YM h (w K0 e a q)
def KW.snoc(w:KW c D n K)(h:Ql D n (d9 c K) e):KW c D n (K++[e]):=λK0 d b q=>by
 cases hK:b with
 |nil=>
  rw[hK]at q;obtain⟨rfl,rfl⟩:=jE q;exact h
 |cons a l=>
  obtain⟨f,j,g⟩:=lH b ();rw[g,<- List.cons_append,<- aQ]at q;obtain⟨i,_⟩:=jE q;exact w K0 d f i
def KW.init(w:KW c D n (K0++[e])):KW c D n K0/\Ql D n (d9 c K0) e:=⟨λd a b q=>w d a _ (by rw[q,aQ];rfl),w K0 e [] rfl⟩
theorem KW.keep(w:KW c D n K)(h:Ql D (n+1) (d9 c K) e)(j:∀x,e=.dat x->x.length<=3)(hc:∀x,e=.com x->c.cm=true\/True):KW c D (n+1) (lJ c K e):=by
 have f:=w.up (cF n);cases e with
 |dat x=>
  show KW c D _ (oJ K x);unfold oJ;cases hL:jO K with
  |none=>exact f.snoc h
  |some y=>
   have i:=lW hL;generalize K.dropLast=K0 at i;subst i;obtain⟨w2,g⟩:=w.init;refine(w2.up ()).snoc ?_;show(y++x).length<=3*(n+1);rw[fJ];have g:y.length<=3*n:=g;lia
 |com x=>
  show KW c D _ (bif c.cm then K++[.com x]else K);cases c.cm with
  |true=>exact f.snoc h
  |false=>exact f
 |told a b=>exact f.snoc h
 |start a b d=>exact f.snoc h
 |fin a=>exact f.snoc h
 |pi a=>exact f.snoc h
theorem wI:(lJ c K e).length<=K.length+1/\(lJ c K e).length>=K.length:=by
 have app:∀e:E5,(K++[e]).length<=K.length+1/\(K++[e]).length>=K.length:=λe=>by
  rw[aC];exact⟨bT _,cF _⟩
 cases e with
 |dat x=>
  show(oJ K x).length<=_/\(oJ K x).length>=_;unfold oJ;cases hL:jO K with
  |none=>exact app _
  |some y=>
   have f:=lW hL;have hl:=congrArg List.length f;rw[aC]at hl;show(K.dropLast++[E5.dat (y++x)]).length<=_/\(K.dropLast++[E5.dat (y++x)]).length>=_;rw[aC,hl];exact⟨cF _,bT _⟩
 |com x=>
  show(bif c.cm then K++[.com x]else K).length<=_/\(bif c.cm then K++[.com x]else K).length>=_;cases c.cm with
  |true=>exact app _
  |false=>exact⟨cF _,bT _⟩
 |told a b=>exact app _
 |start a b d=>exact app _
 |fin a=>exact app _
 |pi a=>exact app _
end
structure TP (c:Cf) (n0:List V) (B D:LH) (n:Nat) (st:List N5×Bool) (t:T5) (hl:List Bool) (K:List E5):Prop where
 ok:jt c t n0 B n
 ki:KI c t K st hl
 kw:KW c D n K
 kl:K.length<=n
structure TQ (c:Cf) (n0:List V) (B D:LH) (n:Nat) (st:List N5×Bool) (t:T5) (hl:List Bool) (K:List E5):Prop extends TP c n0 B D n st t hl K where
 hb:∀u∈(["e","u","v"]:List Str),u∈t.b.map (·.1)
 ne:K≠[]
variable {t:T5} {n:Nat} {K:List E5} {st:List N5×Bool} {e:E5} {hd kp:Nat}
def KI.hlen(k:KI c t K st hl)(h:st.1.length<900):hl.length<900:=by
 obtain⟨hb,rfl,a,_⟩:=k.hid;obtain⟨b,s1,s2⟩:=k.stk;rw[s1,aC,aB,aB]at h;rw[aC,List.length_replicate];lia
inductive GI (sa:Addr) (c:Cf) (ky gn lo td ev kp ca:Nat) (q:Q) (n0:List V) (X:LH) (A:T5->List Bool->List E5->Prop) (J:Loc) (l:LH):Prop
 |mk (t2:T5) (hl2:List Bool) (K2:List E5) (hd2:Nat) (a:A t2 hl2 K2) (h:∀y v,(Ae sa c ky gn lo td ev hd2 kp ca q).lookup y=some v->J.lookup y=some v) (p:l.Perm (HL c q n0 hd2 kp ca gn X t2 hl2 K2)):GI sa c ky gn lo td ev kp ca q n0 X A J l
abbrev G1(Y:Z)(c:Cf)(ky gn lo td ev kp ca:Nat)(q:Q)(n0:List V)(X:LH)(A:T5->List Bool->List E5->Prop)(fl:Fl)(J:Loc)(l:LH):Prop:=uL fl=true/\GI Y.sa c ky gn lo td ev kp ca q n0 X A J l
def Zt{a b d:V}:∀y v,(Ae Y.sa c ky gn lo td ev hd kp ca q).lookup y=some v->(mJ Y.sa c ky gn lo td ev hd kp ca q a b d).lookup y=some v:=λy v h=>by
 have key:∀{l m:Loc},l.lookup y=some v->(l++m).lookup y=some v:=λ{l m}=>by
  induction l with
  |nil=>exact gB
  |cons p l ih=>
   intro h;rw[List.cons_append,bx];rw[bx]at h;cases e:y==p.1 with
   |true=>lia
   |false=>lia
 exact key h
theorem lR{a:List Bool}{A:T5->List Bool->List E5->Prop}(h0:S0 Y c ky gn lo td ev hd kp ca q n0 X X e t hl K t2 a)(hk:K.length<1000)(g:a.length<1000)(d:a.contains true=false->((lC e).1="data"->K≠[])/\∀y x,jO K=some y->e=.dat x->y.length+x.length<=lim)(hp:∀x,A (t2 x) (bif(lC e).1=="end" then a.dropLast else a) (bif a.contains true then K else lJ c K e)):XP (dK Y) 146 (dZ Y 195) (Qn Y.sa c ky gn lo td ev hd kp ca q e) (jV Y) (HL c q n0 hd kp ca gn X t hl K) (G1 Y c ky gn lo td ev kp ca q n0 X A):=
 h0.QK λx=>(s12 hk g d).imp λfl J l f=>by
  obtain⟨rfl,b,rfl,rfl⟩:=f;exact⟨rfl,_,_,_,b,hp x,Zt,.refl _⟩
theorem v8(h:TP c n0 B D n st t hl K)(g:n+1<=320)(e:st.1.length<900)(hp:(u,p)∈t3 c)(hf:t.fs≠[]\/t.da=[]):XP (dK Y) 146 (dZ Y 195) (Qn Y.sa c ky gn lo td ev hd kp ca q (.told p u)) (jV Y) (HL c q n0 hd kp ca gn X t hl K) (G1 Y c ky gn lo td ev kp ca q n0 X λt2 b d=>t2=t.told c (u,p)/\b=hl/\d=(bif hl.contains true then K else K++[.told p u])/\TP c n0 B D (n+1) st t2 b d):=by
 obtain⟨f,o1⟩:=QT h.ok g hp;have hlen:=h.ki.hlen e;have a:=h.kl;refine lR (((Ru (u0 f)).perm oK λU=>oK)) () () (λU=>⟨λq=>absurd q (beq_eq_false_iff_ne.mp kd1.1),λy x U q=>nomatch q⟩) λU=>⟨rfl,rfl,rfl,o1,?_,?_,?_⟩
 rw[h.ki.hc];by_cases hi:t.ig=0
 rw[hi];exact Tg h.ki hi hf
 rw[show(t.ig==0)=false from bB hi,show t.told c (u,p)=t from if_pos hi];exact h.ki
 cases hl.contains true with
 |true=>exact h.kw.up ()
 |false=>exact(h.kw.up ()).snoc trivial
 cases hl.contains true with
 |true=>lia
 |false=>show(K++_).length<=_;rw[aC];exact cu a
def Xn(h:∀u∈(["e","u","v"]:List Str),u∈t.b.map (·.1)):∀u∈(["e","u","v"]:List Str),u∈(t.told c p).b.map (·.1):=by
 have:∀x∈t.b,x∈(t.told c p).b:=λx a=>by
  unfold T5.told;by_cases hi:t.ig≠0
  ·rw[if_pos hi];exact a
  ·rw[if_neg hi];obtain⟨fs,A,b,lv,nv,out,da,se,dn,ig⟩:=t;cases fs with
   |nil=>exact cH _ a
   |cons f fs=>exact a
 intro u d;obtain⟨x,a,rfl⟩:=aF (h u d);exact aJ (this x a)
def ou(a:K≠[]):(bif b then K else lJ c K e)≠[]:=by
 cases b with
 |true=>exact a
 |false=>
  intro q;have:=(wI (c:=c) (K:=K) (e:=e)).2;rw[show lJ c K e=[]from q]at this;exact a (List.length_eq_zero_iff.mp (Nat.le_zero.mp this))
def qj(hk:K.length<=n):(bif b then K else lJ c K e).length<=n+1:=by
 cases b with
 |true=>exact cZ hk
 |false=>exact aK wI.1 (cu hk)
end
section
variable {t:T5} {n:Nat} {K:List E5} {st:List N5×Bool} {e:E5} {hd kp:Nat}
def KI.fne(k:KI c t K st hl)(h:st.1≠[]):t.fs≠[]:=by
 obtain⟨a,s1,s2⟩:=k.stk;by_cases hi:t.ig=0
 ·have:=List.length_eq_zero_iff.mp (s2.trans hi);subst this;refine λq=>h ?_;rw[s1];unfold T5.p;rw[q];rfl
 ·exact k.ih hi
def KI.head(k:KI c t K st hl)(hi:t.ig=0)(h:st.1.head?=some nm):t.fs.head?.map (λf:Fm=>f.r.t.q)=some nm.q:=by
 obtain⟨a,s1,s2⟩:=k.stk;have:=List.length_eq_zero_iff.mp (s2.trans hi);subst this;rw[s1]at h;cases hf:t.fs with
 |nil=>unfold T5.p at h;rw[hf]at h;exact gB h
 |cons f fs=>
  unfold T5.p at h;rw[hf]at h;injection h with h
  rw[<- h];rfl
abbrev Qt(Y:Z)(c:Cf)(ky gn lo td ev hd kp ca:Nat)(q:Q)(n0:List V)(B D X:LH)(n:Nat)(st:List N5×Bool)(t:T5)(hl:List Bool)(K:List E5)(e:E5):Prop:=XP (dK Y) 146 (dZ Y 195) (Qn Y.sa c ky gn lo td ev hd kp ca q e) (jV Y) (HL c q n0 hd kp ca gn X t hl K) (G1 Y c ky gn lo td ev kp ca q n0 X (TQ c n0 B D (n+1) (stE st e)))
def Cg(h:TQ c n0 B D n st t hl K)(m:n+1<=320)(k:st.1.length<900)(ok:Qm st (.told p u)):Qt Y c ky gn lo td ev hd kp ca q n0 B D X n st t hl K (.told p u):=by
 obtain⟨rfl,rfl,h1⟩:=ok;refine(v8 h.toTP m k (.head _) (.inl (h.ki.fne h1))).imp λfl J l d=>?_;obtain⟨g,t2,j,o,a,⟨rfl,rfl,rfl,f⟩,i,b⟩:=d;exact⟨g,_,_,_,a,⟨f,Xn h.hb,ou (c:=c) (e:=.told "q" "u") h.ne⟩,i,b⟩
theorem JN(h:TQ c n0 B D n st t hl K)(j:n+1<=320)(f:st.1.length<900)(ok:Qm st (.dat x)):Qt Y c ky gn lo td ev hd kp ca q n0 B D X n st t hl K (.dat x):=by
 have ok:x.length<=3:=ok;obtain⟨i,o1⟩:=Xq h.ok j ok;have hlen:=h.ki.hlen f;have e:=h.kl;have a:Ql D (n+1) (d9 c K) (.dat x):=by show x.length<=3*(n+1);lia
 refine lR (((Yp (u0 i)).perm oK λU=>oK)) () () (λU=>⟨λU=>h.ne,λy k d q=>?_⟩) λU=>⟨⟨o1,?_,?_,qj h.kl⟩,?_,ou h.ne⟩
 cases q
 have l:y.length<=3*n:=h.kw _ _ [] (lW d);exact aK (show y.length+x.length<=1000 by lia) ()
 rw[h.ki.hc];by_cases hi:t.ig=0
 rw[hi];exact Zz h.ki hi x
 rw[show(t.ig==0)=false from bB hi,show t.txt x=t from if_pos hi];exact h.ki
 cases hl.contains true with
 |true=>exact h.kw.up ()
 |false=>exact h.kw.keep a () λU U=>.inr trivial
 unfold T5.txt;by_cases hi:t.ig≠0
 rw[if_pos hi];exact h.hb
 rw[if_neg hi];exact h.hb
def acn{m:Str}:(t.say c m).b=t.b:=by
 unfold T5.say;by_cases e:t.ig≠0
 ·rw[if_pos e]
 rw[if_neg e];by_cases a:t.dn=true
 ·rw[if_pos a]
 rw[if_neg a];by_cases d:t.se=true
 ·rw[if_pos d];rfl
 ·rw[if_neg d]
def KI.dse(k:KI c t K st hl):t.dn=true->t.se=true:=λh=>by
 have:=k.dn;rw[h]at this;exact(aZ this.symm).1
theorem zm(h:TQ c n0 B D n st t hl K)(o:n+1<=320)(l:st.1.length<900){m:Str}(h0:S0 Y c ky gn lo td ev hd kp ca q n0 X X e t hl K (λU=>t.say c m) hl)(o1:jt c (t.say c m) n0 B (n+1))(j:∀p,PS.step c p e=p.mk' m)(a:stE st e=st)(d:∀x,e≠.dat x)(g:(lC e).1≠"data")(i:((lC e).1=="end")=false)(b:lJ c K e=K++[e])(f:Ql D (n+1) (d9 c K) e):Qt Y c ky gn lo td ev hd kp ca q n0 B D X n st t hl K e:=by
 have hlen:=h.ki.hlen l;have k:=h.kl;refine lR h0 () () (λU=>⟨λq=>absurd q g,λy x U q=>absurd q (d x)⟩) λU=>?_;rw[i];refine⟨⟨o1,?_,?_,qj h.kl⟩,by rw[acn];exact h.hb,ou h.ne⟩
 ·rw[h.ki.hc,b];by_cases hi:t.ig=0
  ·rw[hi];exact Zx h.ki hi j a d
  ·rw[show(t.ig==0)=false from bB hi,show t.say c m=t from if_pos hi,a];exact h.ki
 ·rw[b];cases hl.contains true with
  |true=>exact h.kw.up (cF n)
  |false=>exact(h.kw.up (cF n)).snoc f
theorem JQ(h:TQ c n0 B D n st t hl K)(b:n+1<=320)(d:st.1.length<900)(ok:Qm st (.com x)):Qt Y c ky gn lo td ev hd kp ca q n0 B D X n st t hl K (.com x):=by
 cases hc:c.cm with
 |true=>
  obtain⟨f,o1⟩:=Xr h.ok b h.ki.dse ok hc;exact zm h b d (KJ f) o1 (λU=>rfl) rfl () (beq_eq_false_iff_ne.mp kd5) rfl (by show(bif c.cm then _ else _)=_;rw[hc];rfl) ok
 |false=>
  have hlen:=h.ki.hlen d;have e:=h.kl;have a:lJ c K (.com x)=K:=by show(bif c.cm then _ else _)=_;rw[hc];rfl
  refine lR (KJ (aft hc)) () () (λU=>⟨λq=>absurd q (beq_eq_false_iff_ne.mp kd5),λy x U q=>nomatch q⟩) λU=>⟨⟨h.ok.up b,?_,?_,qj h.kl⟩,h.hb,ou h.ne⟩
  rw[a,show(bif hl.contains true then K else K)=K by cases hl.contains true <;> rfl];exact h.ki
  rw[a,show(bif hl.contains true then K else K)=K by cases hl.contains true <;> rfl];exact h.kw.up ()
def QG(h:TQ c n0 B D n st t hl K)(a:n+1<=320)(d:st.1.length<900)(ok:Qm st (.pi x)):Qt Y c ky gn lo td ev hd kp ca q n0 B D X n st t hl K (.pi x):=by
 obtain⟨b,o1⟩:=abH h.ok a h.ki.dse ok;exact zm h a d (((acz (u0 b)).perm oK λU=>oK)) o1 (λU=>rfl) rfl () (beq_eq_false_iff_ne.mp kd4.1) rfl rfl ok
def Vf:(t.close c).b=t.b:=by
 unfold T5.close;by_cases hi:t.ig≠0
 ·rw[if_pos hi]
 ·rw[if_neg hi];cases t.fs.head? <;> rfl
theorem JM(h:TQ c n0 B D n st t hl K)(g:n+1<=320)(e:st.1.length<900)(d:∀x∈B,x∈X)(ok:Qm st (.fin nm)):Qt Y c ky gn lo td ev hd kp ca q n0 B D X n st t hl K (.fin nm):=by
 have ok:st.1.head?=some nm:=ok;have a:st.1≠[]:=λq=>by rw[q]at ok;exact gB ok
 have hf:=h.ki.fne a;obtain⟨f,o1⟩:=Xp h.ok g h.hb ((λx a=>aG _ (d x a))) (.inr hf) λhi=>h.ki.head hi ok;have hlen:=h.ki.hlen e;have b:=h.kl;refine lR (((Yo (u0 f)).perm oK λU=>oK)) () () (λU=>⟨λq=>absurd q (beq_eq_false_iff_ne.mp kd3.1),λy x U q=>nomatch q⟩) λU=>⟨⟨o1,?_,?_,qj h.kl⟩,by rw[Vf];exact h.hb,ou h.ne⟩
 rw[h.ki.hc];by_cases hi:t.ig=0
 rw[hi];exact Zy h.ki hi hf
 rw[show(t.ig==0)=false from bB hi,show t.close c={t with ig:=t.ig-1}from if_pos hi];exact Iz h.ki hi
 cases hl.contains true with
 |true=>exact h.kw.up ()
 |false=>exact(h.kw.up ()).snoc (h.ki.YC.mp hf)
end
section
variable {t:T5} {X2:LH} {n:Nat} {K:List E5} {st:List N5×Bool} {e:E5} {hd kp:Nat}
def GK(a:X2.Perm X):(HL c q n0 hd kp ca gn X2 t hl K).Perm (HL c q n0 hd kp ca gn X t hl K):=List.Perm.append_left _ (List.Perm.append_left _ (List.Perm.append_left _ a))
def JV(j:X2.Perm X)(h:Qt Y c ky gn lo td ev hd kp ca q n0 B D X n st t hl K e):Qt Y c ky gn lo td ev hd kp ca q n0 B D X2 n st t hl K e:=(h.perm (GK j)).imp λfl J l m=>by
 obtain⟨g,t2,f,k,i,a,b,d⟩:=m;exact⟨g,t2,f,k,i,a,b,d.trans (GK j.symm)⟩
def ZZ.lose{l k:LH}(h:ZZ pe R l l'):ZZ pe R (l++k) l':=λU P H c=>by
 obtain⟨x,H',a,b⟩:=ZZ.frame h P H c;exact⟨x,H',a,b.sub (cY ..)⟩
theorem Ci(h:TQ c n0 B D n st t hl K)(A:n+1<=320)(E:st.1.length<900)(G:∀x∈B,x∈X)(ok:Qm st (.start nm m at'))(hD:(m,fG (dO at'))∈D):Qt Y c ky gn lo td ev hd kp ca q n0 B D ((m,fG (dO at'))::X) n st t hl K (.start nm m at'):=by
 obtain⟨r,e,F,u⟩:=ok;have hlen:=h.ki.hlen E;have w:=h.kl;have v:∀x∈B,x∈[(kp,dN.l (K.map gP)),(ca,.d (gk q))]++X:=λx L=>aG _ (G x L);have g:(hl++[gone.contains nm.q]).length<1000:=by rw[aC];show _+1<_;lia
 have z:∀{b:Bool},b=false->((lC (.start nm m at')).1="data"->K≠[])/\∀y x,jO K=some y->E5.start nm m at'=.dat x->y.length+x.length<=lim:=λU=>⟨λq=>absurd q (beq_eq_false_iff_ne.mp kd2.1),λy x U q=>nomatch q⟩;have o:((lC (.start nm m at')).1=="end")=false:=by show(("start":Str)=="end")=false;decide
 have i:(hl++[gone.contains nm.q]).contains true=(hl.contains true||gone.contains nm.q):=by
  rw[Bool.eq_iff_iff,Bool.or_eq_true,cI,cI,List.mem_append,List.mem_singleton,eq_comm]
 by_cases f:t.ig≠0\/gone.contains nm.q=true
 have hf:t.fs≠[]:=by
  by_cases hi:t.ig≠0
  exact h.ki.ih hi
  refine h.ki.fne λq=>?_;have:=(u q).2;rw[(f.resolve_left hi)]at this;exact iC this.symm
 have hc:(hl++[gone.contains nm.q]).contains true=true:=by
  rw[i,h.ki.hc];rcases f with f|f
  lia
  lia
 obtain⟨_,o1⟩:=Ft (Y:=Y) (q:=q) (R:=[]) h.ok A f 0;refine lR (zL (t2:=λU=>{t with ig:=t.ig+1}) e () λC=>?_) () g z λU=>?_
 obtain⟨I,_⟩:=Ft h.ok A f C;refine ZZ.perm (ZZ.lose (k:=[(C,fG (dO at'.reverse))]) I) ?_ λU=>.refl _;rw[aQ];exact List.Perm.append_left _ c7
 rw[hc];exact⟨⟨o1,Ti h.ki f hf,h.kw.up (),cZ w⟩,h.hb,h.ne⟩
 have hi:=Decidable.not_not.mp λq=>f (.inl q);have j:gone.contains nm.q=false:=by lia
 have H:t.fs=[]->t.se=false:=λhf=>by
  rw[<- h.ki.beg];refine(u ?_).1;obtain⟨E,s1,s2⟩:=h.ki.stk;have:=List.length_eq_zero_iff.mp (s2.trans hi);subst this;rw[s1];unfold T5.p;rw[hf];rfl
 have hc:(hl++[gone.contains nm.q]).contains true=false:=by rw[i,h.ki.hc,hi,j];rfl
 obtain⟨_,o1⟩:=zu (Y:=Y) (q:=q) h.ok A h.hb v hi j r e.rev 0;refine lR (zL e () λC=>(zu h.ok A h.hb v hi j r e.rev C).1) () g z λx=>?_;rw[hc,j];refine⟨⟨o1 _ _,?_,((h.kw.up (cF n)).snoc ⟨r,e,F,hD⟩),?_⟩,h.hb,ou (b:=false) h.ne⟩
 rw[Ia e (List.reverse_perm _)];exact Tj h.ki hi H
 show(K++_).length<=_;rw[aC];exact cu w
theorem adH(A:∀x∈B,x∈X):∀{l1 l2:List E5} {n:Nat} {st:List N5×Bool} {t:T5} {hl:List Bool} {K:List E5} {hd:Nat},evs=l1++l2->TQ c n0 B (iK evs) n st t hl K->WF st l2->n+l2.length<=320->st.1.length<=n ->
  FQ (dK Y) 146 (dZ Y 195) (uP (fW Y)[10]?) (jV Y) (l2.map gP) (Ae Y.sa c ky gn lo td ev hd kp ca q) (HL c q n0 hd kp ca gn (iK evs++X) t hl K) (GI Y.sa c ky gn lo td ev kp ca q n0 (iK evs++X) (TQ c n0 B (iK evs) (n+l2.length) (l2.foldl stE st))):=by
 intro l1 l2
 induction l2 generalizing l1 with
 |nil=>exact λ{n st t hl K hd} U h U U U=>FQ.nil ⟨t,hl,K,hd,h,λU U q=>q,.refl _⟩
 |cons e l2 ih=>
  intro n st t hl K hd s h w y f;rw[aO]at y;obtain⟨ok,w2⟩:=w;have i:n+1<=320:=aK (cM (cu (bN _)) n) y;have j:st.1.length<900:=aU (aK f (Nat.le_of_succ_le i)) ();have k:∀{Y7:LH},∀x∈B,x∈Y7++X:=λx E=>aG _ (A x E);have key:Qt Y c ky gn lo td ev hd kp ca q n0 B (iK evs) (iK evs++X) n st t hl K e:=by
   cases e with
   |told p u=>exact Cg h i j ok
   |fin nm=>exact JM h i j k ok
   |com x=>exact JQ h i j ok
   |pi x=>exact QG h i j ok
   |dat x=>exact JN h i j ok
   |start nm m at'=>
    have F:(m,fG (dO at'))∈iK evs:=(List.mem_flatMap.mpr ⟨_,(by rw[s];exact aG _ (.head _)),(.head _)⟩);have hp:(iK evs++X).Perm ((m,fG (dO at'))::((iK l1++iK l2)++X)):=by
     have:iK evs=iK l1++(m,fG (dO at'))::iK l2:=by rw[s,qb];rfl
     rw[this,aQ,aQ];exact cG
    exact JV hp (Ci h i j k ok F)
  have o:(stE st e).1.length<=n+1:=by
   cases e with
   |start a b d=>exact cu f
   |fin a=>show st.1.tail.length<=_;rw[List.length_tail];exact aK (Nat.sub_le ..) (cZ f)
   |told a b=>exact cZ f
   |com a=>exact cZ f
   |pi a=>exact cZ f
   |dat a=>exact cZ f
  rw[cC,yE];refine FQ.cons (eE:=Qn Y.sa c ky gn lo td ev hd kp ca q e) (λU U=>rfl) (key.imp λfl J l z=>?_);obtain⟨g,t2,D,F,v,a,b,d⟩:=z;have r:=ih (l1:=l1++[e]) (hd:=v) (by rw[s,aQ];rfl) a w2 (by rw[Nat.add_right_comm];exact y) o;rw[Nat.add_assoc,Nat.add_comm 1,<- aO (a:=e)]at r;exact⟨g,(r.forget b).perm d⟩
end
section
variable {t:T5} {n:Nat} {K:List E5} {st:List N5×Bool} {e:E5} {hd kp:Nat}
noncomputable def t00(lv nv:Nat):T5:=⟨[],[],[],lv,nv,[],[],false,false,0⟩
def Ge(c:Cf)(A:List Str):pfx c A eG="xml":=by
 unfold pfx;cases c.rw with
 |true=>rfl
 |false=>rfl
def abW:(t00 lv nv).s c n0=S5.i0 n0 lv nv:=by
 refine s5e rfl rfl (aX _) ?_ rfl ?_
 show(bif c.rw then nP []else[])=[];cases c.rw <;> rfl
 show([],lv,nv,vA c [] [eG],[],false,false,_)=([],lv,nv,[pv (eG,"xml")],_);have:vA c [] [eG]=[pv (eG,"xml")]:=by
  show[pv (eG,pfx c [] eG)]=_;rw[Ge]
 rw[this];rfl
theorem agw(h1:n0.length<=1)(b:c.rw=false->∃w,n0=[.r w]/\(w,dN.l (Dh.map pv))∈B):TP c n0 B D 0 ([],false) (t00 lv nv) [] [] where
 ok:=⟨⟨.nil,(λU h=>nomatch h)⟩,λu a=>by
  rw[au (show u∈[eG]from a)];exact⟨by decide+kernel,λU=>.inr rfl,λh=>absurd h.1 (by decide+kernel)⟩,List.nodup_cons.mpr ⟨cR,.nil⟩,trivial,(λU h=>nomatch h),b,h1,bT _,bT _,(λU h=>nomatch h),bT _,bT _,()⟩
 ki:=⟨rfl,rfl,rfl,rfl,λK0 x h=>absurd h.symm (List.append_ne_nil_of_right_ne_nil _ (dG _ _)),λh=>absurd rfl h,⟨[],rfl,rfl,.inl rfl⟩,⟨[],rfl,rfl⟩,rfl,rfl,λh=>absurd rfl h,λh=>absurd rfl h⟩
 kw:=λK0 e d h=>absurd h.symm (List.append_ne_nil_of_right_ne_nil _ (dG _ _))
 kl:=bT _
theorem qC{es:List V}(h:TP c n0 B D n ([],false) t [] K)(k:n+1<=320)(hp:(u,p)∈t3 c)(hf:t.da=[])(j:TP c n0 B D (n+1) ([],false) (t.told c (u,p)) [] (K++[.told p u])->∀hd,FQ (dK Y) 146 (dZ Y 195) (uP (fW Y)[10]?) (jV Y) es (Ae Y.sa c ky gn lo td ev hd kp ca q) (HL c q n0 hd kp ca gn X (t.told c (u,p)) [] (K++[.told p u])) J7):FQ (dK Y) 146 (dZ Y 195) (uP (fW Y)[10]?) (jV Y) (gP (.told p u)::es) (Ae Y.sa c ky gn lo td ev hd kp ca q) (HL c q n0 hd kp ca gn X t [] K) J7:=by
 refine FQ.cons (λU U=>rfl) ((v8 h k () hp (.inr hf)).imp λfl J l f=>?_);obtain⟨g,t2,i,m,e,⟨rfl,rfl,rfl,a⟩,b,d⟩:=f;exact⟨g,((j a e).forget b).perm d⟩
def to3(c:Cf):List E5:=[.told "q" "u",.told "p" "v",.told (pK c "e") "e"]
def JW(c:Cf):eZ c.ba=(to3 c).map gP:=by
 show[V.t [.s "told",.s "q",.s "u"],V.t [.s "told",.s "p",.s "v"],V.t [.s "told",.s _,.s "e"]]=[V.t [.s "told",.s "q",.s "u"],V.t [.s "told",.s "p",.s "v"],V.t [.s "told",.s _,.s "e"]];rw[show pK c ("e":Str)=(bif c.ba then _ else _)from if_pos rfl]
def Fp(hi:t.ig=0):(t.told c p).da=[]/\(t.told c p).ig=0:=by
 rw[show t.told c p=(t.jd c).mO p from if_neg λq=>q hi];obtain⟨fs,A,b,lv,nv,out,da,se,dn,ig⟩:=t
 cases fs <;> exact⟨rfl,hi⟩
abbrev L1(c:Cf)(sa:Addr)(ky gn lo td ev kp ca:Nat)(q:Q)(n0:List V)(B X:LH)(evs:List E5)(J:Loc)(l:LH):Prop:=GI sa c ky gn lo td ev kp ca q n0 (iK evs++X) (TQ c n0 B (iK evs) (3+evs.length) ([],true)) J l
theorem Ma(a:EvF evs)(j:∀x∈B,x∈X)(h1:n0.length<=1)(g:c.rw=false->∃w,n0=[.r w]/\(w,dN.l (Dh.map pv))∈B)(lv nv:Nat):FQ (dK Y) 146 (dZ Y 195) (uP (fW Y)[10]?) (jV Y) (eZ c.ba++evs.map gP) (Ae Y.sa c ky gn lo td ev hd kp ca q) (HL c q n0 hd kp ca gn (iK evs++X) (t00 lv nv) [] []) (L1 c Y.sa ky gn lo td ev kp ca q n0 B X evs):=by
 rw[JW];have m:=a.len;refine qC (agw (D:=iK evs) h1 g) () (.head _) rfl λy k=>?_;obtain⟨i,f⟩:=Fp (t:=t00 lv nv) rfl;refine qC y () (.tail _ (.head _)) i λs o=>?_;obtain⟨h,n⟩:=Fp f;refine qC s () (.tail _ (.tail _ (.head _))) h λv d=>?_;have r:=adH (Y:=Y) (q:=q) (ky:=ky) (gn:=gn) (lo:=lo) (td:=td) (ev:=ev) (kp:=kp) (ca:=ca) j (l1:=[]) (hd:=d) rfl ⟨v,λu e=>e |> λe=>by
  have:(((((t00 lv nv).told c ("u","q")).told c ("v","p")).told c ("e",pK c "e")).b).map (·.1)=(["u","v","e"]:List Str):=by
   rfl
  exact(by decide:∀u∈(["e","u","v"]:List Str),u∈(["u","v","e"]:List Str)) u e,dG _ _⟩ a.wf () (bN _)
 rw[a.fin]at r;exact r
end
section
def Va(is:List Int):∃l:List Int,jN (is.map .i) none (some 1) none=l.map .i:=by
 obtain⟨l,h,_⟩:=Bk is none _ none;exact⟨l,h⟩
noncomputable def gx(x:Pl):Pl:=λk=>x (k+4)
def KN(c:Cf)(x:Pl)(ky lo td:Nat):LH:=Df c (gx x)++[(lo,.l (c.fj.map .s)),(ky,.l gj),(td,.l (eZ c.ba))]
def ac5(h:c.rw=false):∃w,xT c x=[.r w]/\(w,dN.l (Dh.map pv))∈Df c x:=by
 unfold xT Df;exact h▸⟨_,rfl,.head _⟩
set_option backward.match.sparseCases false in
noncomputable def fpS:Stmt->Pos×Pos
 |.For _ (.Name _ p) _ _ q=>(q,p)
 |_=>(⟨0,0,0,0⟩,⟨0,0,0,0⟩)
def fp(o:Option Stmt):Pos:=(o.elim (⟨0,0,0,0⟩,⟨0,0,0,0⟩) fpS).1
def np(o:Option Stmt):Pos:=(o.elim (⟨0,0,0,0⟩,⟨0,0,0,0⟩) fpS).2
theorem adV(hl:Y.is.length<=63){A:V->LH->Prop}(m:∀(c:Cf) (ky gn lo td ev:Nat) (x:Pl) (evs:List E5) (J:Loc) (l:LH),EvF evs->L1 c Y.sa ky gn lo td ev (x 1) (x 2) (qX x) (xT c (gx x)) (Df c (gx x)) (KN c x ky lo td) evs J l->XQ (dK Y) 147 (dZ Y 195) J ((fW Y).drop 11) (l++[(ev,.l (eZ c.ba++evs.map gP))]) A):XQ (dK Y) 147 (dZ Y 195) [("script",.f Y.sa)] (fW Y) [(0,.t 116 fP)] A:=by
 obtain⟨l,h⟩:=Va Y.is;refine(ahy h).vh λe=>?_;generalize (⟨pC l 0,pC l 1,pC l 2,pC l 3,pC l 4⟩:Cf)=c;refine ahx.vh λa=>ahw.vh λg=>?_;refine((ahv Y _ c hl).perm (.swap ..)).vh λk u r=>?_;obtain⟨ev,evs,j,rfl,rfl⟩:=r;have p6:([(e 0,dN.l gj),(g 0,.l (eZ c.ba)),(ev,.l (eZ c.ba++evs.map gP))]++(iK evs++[(a 0,dN.l (g8.map .s)),(a 1,.l ((Gk c.bl).map .s)),(0,.t 116 fP)])).Perm ([(0,dN.t 116 fP),(a 0,.l (g8.map .s)),(a 1,.l (c.fj.map .s))]++(iK evs++[(e 0,dN.l gj),(g 0,.l (eZ c.ba)),(ev,.l (eZ c.ba++evs.map gP))])):=by
  refine(qt _ _ _).trans (List.Perm.trans (List.Perm.append_left _ ?_) (qt _ _ _));exact List.perm_append_comm.trans (List.Perm.append_right _ (c7 (l₁:=[(a 0,_),(a 1,_)])))
 refine XQ.perm (ahu.vh λx=>?_) p6;have p7:(tg c (qX x) (sX c x)++glL c (a 0) (a 1)++[(x 0,dN.l []),(x 1,.l []),(x 2,.d (gk (qX x)))]++(Df c (gx x)++(iK evs++[(e 0,dN.l gj),(g 0,.l (eZ c.ba)),(ev,.l (eZ c.ba++evs.map gP))]))).Perm (HL c (qX x) (xT c (gx x)) (x 0) (x 1) (x 2) (a 0) (iK evs++KN c x (e 0) (a 1) (g 0)) (t00 (x 13) (x 14)) [] []++[(ev,.l (eZ c.ba++evs.map gP))]):=by
  unfold HL KN;rw[abW,aQ];show(tg c (qX x) (sX c x)++([(a 0,dN.l _),(a 1,.l _)]++([(x 0,dN.l []),_,(x 2,.d _)]++(Df c (gx x)++(iK evs++[(e 0,dN.l gj),_,(ev,.l _)]))))).Perm ([(x 0,dN.l []),_,_,(a 0,dN.l _)]++(tg c (qX x) (sX c x)++([]++(iK evs++(Df c (gx x)++[(a 1,.l _),_,(g 0,.l _)]))))++[(ev,.l _)]);rw[List.nil_append,aQ,aQ _,aQ _,aQ (Df c (gx x))];refine List.Perm.trans (List.Perm.append_left _ ((qt _ _ _).trans ?_)) (qt _ _ _);exact List.Perm.append_left _ (.cons _ ((pA _ _ _ _).trans (qt _ _ _)))
 have lp:=Ma (Y:=Y) (q:=qX x) (X:=KN c x (e 0) (a 1) (g 0)) (ky:=e 0) (gn:=a 0) (lo:=a 1) (td:=g 0) (ev:=ev) (hd:=x 0) (kp:=x 1) (ca:=x 2) j (λy o=>cH _ o) (by
  unfold xT;cases c.rw with
  |true=>exact bN 1
  |false=>exact bT 1) ac5 (x 13) (x 14);have n:=PQ.Z8 (pos:=(fp (fW Y)[10]?)) (b:=(fW Y).drop 11) rfl (EE.name (x:="events") (p:=np (fW Y)[10]?) rfl) lp;exact XQ.perm (n.vh λeE l1 i=>by
  obtain⟨l0,rfl,h0⟩:=i;exact m c _ _ _ _ ev x evs eE l0 j h0) p7
end
section
open To
variable {R:LH}
abbrev BX(Y:Z):List Stmt:=gJ (fW Y)[12]?
def lc0(c:Cf)(ky lo td o kp:Nat):Loc:=[("xml",.s eG),("strip",.b c.st),("rewriting",.b c.rw),("blind",.b c.bl),("keys",.r ky),("lost",.r lo),("told",.r td),("out",.r o),("kept",.r kp)]
def Wn(c:Cf)(ky lo td o kp:Nat)(du:Str)(se:Bool)(pa nd px:Nat):Loc:=[("xml",.s eG),("strip",.b c.st),("rewriting",.b c.rw),("blind",.b c.bl),("keys",.r ky),("lost",.r lo),("told",.r td),("out",.r o),("kept",.r kp),("due",.s du),("seen",.b se),("path",.r pa),("needed",.r nd),("prefixes",.r px)]
set_option backward.match.sparseCases false in
def abE:Expr->Expr
 |.Tuple [_,_,_,_,e] _ _=>e
 |_=>e0
abbrev eD(Y:Z):Expr:=abE (sO (fW Y)[11]?).1
set_option backward.match.sparseCases false in
def dxy:Expr->Expr×Expr×List Comprehension×Sc
 |.DictComp x y g s _=>(x,y,g,s.names)
 |_=>(e0,e0,[],[])
abbrev scD(Y:Z):Sc:=(dxy (eD Y)).2.2.2
def pT(c:Cf):List (Str×V):=(t3 c).map λp=>(p.1,.s p.2)
noncomputable def adN(p u:Str):Loc:=[("kind",.s "told"),("prefix",.s p),("uri",.s u)]
def Xy{l0 l:Loc}(h:∀p∈l0,l.lookup p.1=some p.2):∀y v,l0.lookup y=some v->l.lookup y=some v:=λy v q=>by
 induction l0 with
 |nil=>exact gB q
 |cons p l0 ih=>
  rw[bx]at q;cases e:y==p.1 with
  |true=>
   rw[e]at q;rw[beq_iff_eq.mp e,<- q];exact h p (.head _)
  |false=>rw[e]at q;exact ih (λy a=>h y (.tail _ a)) q
theorem SX{hd kp:Nat}(h:∀y v,(Ae sa c ky gn lo td ev hd kp ca q).lookup y=some v->J.lookup y=some v):∀y v,(lc0 c ky lo td q.o kp).lookup y=some v->J.lookup y=some v:=by
 refine Xy (List.forall_mem_cons.mpr ⟨h _ _ rfl,List.forall_mem_cons.mpr ⟨h _ _ rfl,List.forall_mem_cons.mpr ⟨h _ _ rfl,List.forall_mem_cons.mpr ⟨h _ _ rfl,List.forall_mem_cons.mpr ⟨h _ _ rfl,List.forall_mem_cons.mpr ⟨h _ _ rfl,List.forall_mem_cons.mpr ⟨h _ _ rfl,List.forall_mem_cons.mpr ⟨h _ _ rfl,List.forall_mem_cons.mpr ⟨h _ _ rfl,λU h=>nomatch h⟩⟩⟩⟩⟩⟩⟩⟩⟩)
def aaC(c:Cf):iu ((t3 c).map λp=>V.t [.s p.1,.s p.2])=pT c:=by
 have:=jG (l:=pT c) (by
  show([("u":Str),"v","e"]:List Str).Nodup;decide)
 rfl
theorem aij(Y:Z)(R:LH)(c:Cf)(ky lo td o kp:Nat):EC (dK Y) 41 (dZ Y 195) (lc0 c ky lo td o kp) (eD Y) ([(td,.l (eZ c.ba))]++R) (λx=>.r (x 0)) (λx=>[(td,.l (eZ c.ba)),(x 0,.d (pT c))]++R):=by
 have a:CT (dK Y) 40 (scD Y) (.kv (dxy (eD Y)).1 (dxy (eD Y)).2.1) [] (uP (fW Y)[11]? |> λU=>((dxy (eD Y)).2.2.1.head?.elim e0 (·.target))) [] ((t3 c).map λp=>V.t [.s "told",.s p.2,.s p.1]) (around (scD Y) (lc0 c ky lo td o kp)) R _ (λU=>R):=
  CT.flat λp hp=>⟨adN p.2 p.1,λU U=>rfl,.inl ⟨EY.nil,BK.kv (EE.name (x:="uri") rfl) (EE.name (x:="prefix") rfl)⟩⟩
 have e:((t3 c).map λp=>V.t [.s "told",.s p.2,.s p.1])=eZ c.ba:=by
  show[V.t [.s "told",.s "q",.s "u"],V.t [.s "told",.s "p",.s "v"],V.t [.s "told",.s (pK c "e"),.s "e"]]=[V.t [.s "told",.s "q",.s "u"],V.t [.s "told",.s "p",.s "v"],V.t [.s "told",.s (bif c.ba then"n" else""),.s "e"]];rw[show pK c ("e":Str)=(bif c.ba then("n":Str)else("":Str))from if_pos rfl]
 rw[e,List.map_eq_flatMap.symm]at a;have key:EC (dK Y) 41 (dZ Y 195) (lc0 c ky lo td o kp) (eD Y) (R++[(td,.l (eZ c.ba))]) (λx=>.r (x 0)) _:=
  EC.dc rfl rfl (.old (EE.name (x:="told") rfl)) rfl a (fM rfl)
 rw[aaC]at key;exact key.perm (c7 (l₁:=[(td,_)])) λx=>(List.Perm.swap ..).trans (.cons _ (c7 (l₁:=[(td,_)])))
theorem adE{o kp:Nat}:PX (dK Y) 147 (dZ Y 195) ((fW Y).drop 11) (((fW Y).drop 11).drop 1) (lc0 c ky lo td o kp) ([(td,.l (eZ c.ba))]++R) (λnw=>Wn c ky lo td o kp cJ false (nw 0) (nw 1) (nw 2)) (λnw=>[(td,.l (eZ c.ba)),(nw 0,.l []),(nw 1,.l []),(nw 2,.d (pT c))]++R):=PX.go 1 [.call 41 [0] (λU x=>.r (x 0)) (λU x=>[(td,.l (eZ c.ba)),(x 0,.d (pT c))]) (λU U=>R),.keep [0,1,2,3]] (λU f=>λe=>λb=>a (aij Y R c ky lo td o kp)<|λ(m2:Pl)=>f (Qi [e,b,m2 0]))
end
section
open To
variable {R:LH}
def qL(c:Cf)(ky lo td o kp:Nat)(du:Str)(se:Bool)(pa nd px:Nat)(kd:Str)(w m:V):Loc:=[("xml",.s eG),("strip",.b c.st),("rewriting",.b c.rw),("blind",.b c.bl),("keys",.r ky),("lost",.r lo),("told",.r td),("out",.r o),("kept",.r kp),("due",.s du),("seen",.b se),("path",.r pa),("needed",.r nd),("prefixes",.r px),("kind",.s kd),("what",w),("more",m)]
def lcm(c:Cf)(ky lo td o kp:Nat)(du:Str)(se:Bool)(pa nd px:Nat)(kd:Str)(w m:V)(mk:Str):Loc:=[("xml",.s eG),("strip",.b c.st),("rewriting",.b c.rw),("blind",.b c.bl),("keys",.r ky),("lost",.r lo),("told",.r td),("out",.r o),("kept",.r kp),("due",.s du),("seen",.b se),("path",.r pa),("needed",.r nd),("prefixes",.r px),("kind",.s kd),("what",w),("more",m),("mark",.s mk)]
noncomputable def lQ(f:Str)(u:Nat)(b:Bool):V:=.t [.s f,.r u,.b b]
def dB(h:du.length<10000000)(a:x.length<=100000):du.length+(eV x).length<=lim:=aK (dg (cj h) (lM a)) ()
def sE{x:Str}(a:x.length<=100000):x.length<=lim:=aK a ()
def sS(a:x.length<=100000):(Txt.strip x).length<=100000:=aK (mU x) a
def ndG:(([(">",V.s "&gt;")]:List (Str×V)).map λx=>x.1).Nodup:=List.nodup_cons.mpr ⟨cR,.nil⟩
def eL1{f:Str}(h:f.length<10000):("</":Str).length+f.length<=lim:=aK (dg (show("</":Str).length<=2 from fM rfl) (cj h)) ()
def eL2(h:f.length<10000):("</"++f:Str).length+(">":Str).length<=lim:=by
 rw[fJ];exact aK (dg (dg (show("</":Str).length<=2 from fM rfl) (cj h)) (show(">":Str).length<=1 from fM rfl)) ()
def eL3(hd:du.length<10000000)(h:f.length<10000):du.length+("</"++f++">":Str).length<=lim:=by
 rw[fJ,fJ];exact aK (dg (cj hd) (dg (dg (show("</":Str).length<=2 from fM rfl) (cj h)) (show(">":Str).length<=1 from fM rfl))) ()
theorem aiC{o kp:Nat}{px:Nat}{m:V}{ps:List V}{u:Nat}(j:c.st=false)(e:x.length<=100000)(hd:du.length<10000000):XS (dK Y) 146 (dZ Y 195) (qL c ky lo td o kp du se pa nd px "data" (.s x) m) (BX Y) ([(pa,.l (ps++[lQ g u b]))]++R) (λnw=>.next) (λnw=>qL c ky lo td o kp (du++eV (x)) se pa nd px "data" (.s x) m) (λnw=>[(pa,.l (ps++[lQ g u b]))]++R):=XS.go [n 0,n 0,n 1,.n 1,.n 2,.call 61 [2] (λU U=>.s (eV (x))) (λq U=>[(q 2,.d (rG R0))]) (λU U=>R),.keep [0]] (λU f=>λi=>dH pa<|dH i<|a (Y0 ps (lQ g u b))<|a (j)<|a (ndG)<|λh=>a (Br Y R x h e)<|λ(m2:Pl)=>a (dB hd e)<|f (λU=>0))
theorem aiB{o kp:Nat}{px:Nat}{m:V}{ps:List V}{u:Nat}(j:c.st=true)(hb:b=true)(e:x.length<=100000)(hd:du.length<10000000):XS (dK Y) 146 (dZ Y 195) (qL c ky lo td o kp du se pa nd px "data" (.s x) m) (BX Y) ([(pa,.l (ps++[lQ g u b]))]++R) (λnw=>.next) (λnw=>qL c ky lo td o kp (du++eV (x)) se pa nd px "data" (.s x) m) (λnw=>[(pa,.l (ps++[lQ g u b]))]++R):=XS.go [n 0,n 0,n 1,.n 1,.n 1,n 0,.val λU=>lQ g u b,.n 0,.n 1,.call 61 [2] (λU U=>.s (eV (x))) (λq U=>[(q 2,.d (rG R0))]) (λU U=>R),.keep [0]] (λU f=>λi=>dH pa<|dH i<|a (Y0 ps (lQ g u b))<|a (j)<|dH pa<|a (gQ (xs:=ps) (x:=lQ g u b))<|a (hb)<|a (ndG)<|λh=>a (Br Y R x h e)<|λ(m2:Pl)=>a (dB hd e)<|f (λU=>0))
theorem aiD{o kp:Nat}{px:Nat}{m:V}{ps:List V}{u:Nat}(j:c.st=true)(hb:b=false)(e:x.length<=100000)(hd:du.length<10000000):XS (dK Y) 146 (dZ Y 195) (qL c ky lo td o kp du se pa nd px "data" (.s x) m) (BX Y) ([(pa,.l (ps++[lQ g u b]))]++R) (λnw=>.next) (λnw=>qL c ky lo td o kp (du++eV (Txt.strip x)) se pa nd px "data" (.s x) m) (λnw=>[(pa,.l (ps++[lQ g u b]))]++R):=XS.go [n 0,n 0,n 1,.n 1,.n 1,n 0,.val λU=>lQ g u b,.n 0,.n 2,.call 61 [2] (λU U=>.s (eV (Txt.strip x))) (λq U=>[(q 2,.d (rG R0))]) (λU U=>R),.keep [0]] (λU f=>λi=>dH pa<|dH i<|a (Y0 ps (lQ g u b))<|a (j)<|dH pa<|a (gQ (xs:=ps) (x:=lQ g u b))<|a (hb)<|a (sE e)<|a (ndG)<|λh=>a (Br Y R _ h (sS e))<|λ(m2:Pl)=>a (dB hd (sS e))<|f (λU=>0))
def aiE{o kp:Nat}{px:Nat}{m:V}:XS (dK Y) 146 (dZ Y 195) (qL c ky lo td o kp du se pa nd px "data" (.s x) m) (BX Y) ([(pa,.l [])]++R) (λnw=>.next) (λnw=>qL c ky lo td o kp du se pa nd px "data" (.s x) m) (λnw=>[(pa,.l [])]++R):=XS.go [n 0,n 0,n 1,n 0,n 0,n 0,n 2,.n 0,n 0,.keep [0]] (λU f=>λb=>dH pa<|dH b<|λa=>dH a<|f (λU=>0))
def U9{o kp:Nat}{px:Nat}{w m:V}:XS (dK Y) 146 (dZ Y 195) (qL c ky lo td o kp du se pa nd px "told" w m) (BX Y) ([]++R) (λnw=>.next) (λnw=>qL c ky lo td o kp du se pa nd px "told" w m) (λnw=>[]++R):=XS.go [n 0,n 0,n 0,n 0,.n 0,n 0,.keep []] (λU f=>λa=>dH a<|f (λU=>0))
theorem aaG{o kp:Nat}{px:Nat}{w m:V}{ps:List V}{u:Nat}(hp:ps.length<900)(hf:g.length<10000)(hd:du.length<10000000):XS (dK Y) 146 (dZ Y 195) (qL c ky lo td o kp du se pa nd px "end" w m) (BX Y) ([(pa,.l (ps++[lQ g u b]))]++R) (λnw=>.next) (λnw=>qL c ky lo td o kp (du++("</"++g++">")) se pa nd px "end" w m) (λnw=>[(pa,.l ps)]++R):=XS.go [n 0,n 0,n 0,n 0,.zU (λU=>ps) (λU=>lQ g u b),.n 0,.keep [0]] (λU f=>dH pa<|dH pa<|a (rC ps (lQ g u b) hp)<|a (eL1 hf)<|a (eL2 hf)<|a (eL3 hd hf)<|f (λU=>0))
end
section
open To
section
variable {pe:Pe} {n:Nat} {J:Loc} {L1:LH} {Q:Fl->Loc->LH->Prop} {t:Expr} {x y:List Stmt} {p:Pos}
def XP.ite(h1:TT pe n O J t L (λU=>b) (λU=>L1))(e:XP pe n O J (bif b then x else y) L1 λfl l h=>fl=.next/\Q fl l h):XP pe (n+1) O J [.If t x y p] L λfl l h=>fl=.next/\Q fl l h:=λU P H a=>by
 obtain⟨z,H1,d,t1⟩:=h1 P H a;obtain⟨fl,dI,l',H2,⟨rfl,q⟩,c,t2⟩:=e P H1 t1.has;exact⟨_,dI,l',H2,⟨rfl,q⟩,d7 (W9 d c) jP,t1.trans t2⟩
end
def zrX(pe:Pe)(n:Nat)(O:Sc)(J:Loc)(a r:LH)(o:List To)(st:Stmt)(fl:Pl->Fl)(dI:Pl->Loc)(l':Pl->LH)(F:Fl->Loc->LH->Prop)(_:∀x,F (fl x) (dI x) (l' x)):Prop:=(goN pe n).x O J st ⟨a,r,o⟩ λfl J s=>kept s (F fl J)
theorem XX.go{n:Nat}{a r:LH}(o:List To){st:Stmt}{fl:Pl->Fl}{dI:Pl->Loc}{T7:∀F:Fl->Loc->LH->Prop,(∀x,F (fl x) (dI x) (l' x))->Prop}(h:∀F f,T7 F f)(e:zrX pe n O J a r o st fl dI l'=T7:=by kernel_rfl):XX pe n O J st (a++r) fl dI l':=λcx P H b=>by
 subst e;exact(snd P n).x (h (λf l k=>∃x,f=fl x/\l=dI x/\k=l' x) λx=>⟨x,rfl,rfl,rfl⟩) b _ λq U H' c t1 k=>qM k t1 λk t2 ⟨x,h1,d,g⟩=>⟨x,H',by show GX cx n O st J H (fl x) (dI x) H';rw[<- h1,<- d];exact c,g▸t2⟩
variable {R:LH}
abbrev Bc(Y:Z):List Stmt:=(sO (BX Y)[0]?).2.2.1
abbrev Ed(Y:Z):List Stmt:=(sO (Bc Y)[0]?).2.2.1
abbrev yG(Y:Z):List Stmt:=(sO (Ed Y)[0]?).2.2.1
abbrev mL(Y:Z):List Stmt:=gJ (yG Y)[0]?
abbrev iw(Y:Z):List Stmt:=gJ (Bc Y)[0]?
def h3{x:Str}(h:x.length<=1000):x.length<=100000:=aK h ()
def eC(h:x.length<=1000):(eV x).length<=600000:=lM (h3 h)
def mk1(h:x.length<=1000):("<!--":Str).length+(eV x).length<=lim:=aK (dg (show("<!--":Str).length<=4 from fM rfl) (eC h)) ()
def mk2(h:x.length<=1000):("<!--"++eV x:Str).length+("-->":Str).length<=lim:=by
 rw[fJ];exact aK (dg (dg (show("<!--":Str).length<=4 from fM rfl) (eC h)) (show("-->":Str).length<=3 from fM rfl)) ()
def ado:("<?t":Str).length+("":Str).length<=lim:=fM rfl
def adn:("<?t"++"":Str).length+("?>":Str).length<=lim:=fM rfl
def ahs(h:x.length<=1000):(" ":Str).length+(eV x).length<=lim:=aK (dg (show(" ":Str).length<=1 from fM rfl) (eC h)) ()
def ahr(h:x.length<=1000):("<?t":Str).length+(" "++eV x:Str).length<=lim:=by
 rw[fJ];exact aK (dg (show("<?t":Str).length<=3 from fM rfl) (dg (show(" ":Str).length<=1 from fM rfl) (eC h))) ()
def ahq(h:x.length<=1000):("<?t"++(" "++eV x):Str).length+("?>":Str).length<=lim:=by
 rw[fJ,fJ];exact aK (dg (dg (show("<?t":Str).length<=3 from fM rfl) (dg (show(" ":Str).length<=1 from fM rfl) (eC h))) (show("?>":Str).length<=2 from fM rfl)) ()
def nl1:("\n":Str).length<=1:=fM rfl
def dM{mk:Str}(hd:du.length<10000000)(a:mk.length<1000000):du.length+mk.length<=lim:=aK (dg (cj hd) (cj a)) ()
def dM1{mk:Str}(a:mk.length<1000000):("\n":Str).length+mk.length<=lim:=aK (dg nl1 (cj a)) ()
def dM2{mk:Str}(hd:du.length<10000000)(a:mk.length<1000000):du.length+("\n"++mk:Str).length<=lim:=by
 rw[fJ];exact aK (dg (cj hd) (dg nl1 (cj a))) ()
def dM3{mk:Str}(a:mk.length<1000000):mk.length+("\n":Str).length<=lim:=aK () ()
def dM4{mk:Str}(hd:du.length<10000000)(a:mk.length<1000000):du.length+(mk++"\n":Str).length<=lim:=by
 rw[fJ];exact aK (dg (cj hd) ()) ()
def abT{o kp:Nat}{px:Nat}{w m:V}(h:(kd=="data")=false):TT (dK Y) 145 (dZ Y 195) (qL c ky lo td o kp du se pa nd px kd w m) ((sO (BX Y)[0]?).1) ([]++R) (λnw=>false) (λnw=>[]++R):=TT.go [.n 2,.keep []] (λU f=>a (h)<|f (λU=>0))
def agB{o kp:Nat}{px:Nat}{w m:V}(h:(kd=="start")=false):TT (dK Y) 144 (dZ Y 195) (qL c ky lo td o kp du se pa nd px kd w m) ((sO (Bc Y)[0]?).1) ([]++R) (λnw=>false) (λnw=>[]++R):=TT.go [.n 2,.keep []] (λU f=>a (h)<|f (λU=>0))
def abS{o kp:Nat}{px:Nat}{w m:V}:TT (dK Y) 144 (dZ Y 195) (qL c ky lo td o kp du se pa nd px "start" w m) ((sO (Bc Y)[0]?).1) ([]++R) (λnw=>true) (λnw=>[]++R):=TT.go [n 0,.keep []] (λU f=>f (λU=>0))
def agA{o kp:Nat}{px:Nat}{w m:V}(h:(kd=="end")=false):TT (dK Y) 143 (dZ Y 195) (qL c ky lo td o kp du se pa nd px kd w m) ((sO (Ed Y)[0]?).1) ([]++R) (λnw=>false) (λnw=>[]++R):=TT.go [.n 2,.keep []] (λU f=>a (h)<|f (λU=>0))
def abR{o kp:Nat}{px:Nat}{w m:V}:TT (dK Y) 142 (dZ Y 195) (qL c ky lo td o kp du se pa nd px "comment" w m) ((sO (yG Y)[0]?).1) ([]++R) (λnw=>true) (λnw=>[]++R):=TT.go [n 0,.n 0,n 0,.keep []] (λU f=>λa=>dH a<|f (λU=>0))
def abQ{o kp:Nat}{px:Nat}{w m:V}:TT (dK Y) 142 (dZ Y 195) (qL c ky lo td o kp du se pa nd px "pi" w m) ((sO (yG Y)[0]?).1) ([]++R) (λnw=>true) (λnw=>[]++R):=TT.go [n 0,.n 0,n 0,.keep []] (λU f=>λa=>dH a<|f (λU=>0))
theorem adA{o kp:Nat}{px:Nat}{m:V}(b:x.length<=1000):PX (dK Y) 142 (dZ Y 195) (mL Y) ((mL Y).drop 1) (qL c ky lo td o kp du se pa nd px kd (.s x) m) ([]++R) (λnw=>lcm c ky lo td o kp du se pa nd px kd (.s x) m ("<!--"++eV x++"-->")) (λnw=>[]++R):=PX.go 1 [.call 61 [0] (λU U=>.s (eV x)) (λq U=>[(q 0,.d (rG R0))]) (λU U=>R),.keep []] (λU f=>a (ndG)<|λe=>a (Br Y R x e (h3 b))<|λ(g:Pl)=>a (mk1 b)<|a (mk2 b)<|f (λU=>0))
def ady{o kp:Nat}{px:Nat}{w m:V}{mk:Str}:PX (dK Y) 142 (dZ Y 195) ((mL Y).drop 1) (((mL Y).drop 1).drop 1) (lcm c ky lo td o kp du se pa nd px "comment" w m mk) ([]++R) (λnw=>lcm c ky lo td o kp du se pa nd px "comment" w m mk) (λnw=>[]++R):=PX.go 1 [n 0,.keep []] (λU f=>f (λU=>0))
def adx{o kp:Nat}{px:Nat}{w:V}{mk:Str}:PX (dK Y) 142 (dZ Y 195) ((mL Y).drop 1) (((mL Y).drop 1).drop 1) (lcm c ky lo td o kp du se pa nd px "pi" w .n mk) ([]++R) (λnw=>lcm c ky lo td o kp du se pa nd px "pi" w .n ("<?t"++""++"?>")) (λnw=>[]++R):=PX.go 1 [n 0,n 0,.keep []] (λU f=>a (ado)<|a (adn)<|f (λU=>0))
def adz{o kp:Nat}{px:Nat}{w:V}{mk:Str}:PX (dK Y) 142 (dZ Y 195) ((mL Y).drop 1) (((mL Y).drop 1).drop 1) (lcm c ky lo td o kp du se pa nd px "pi" w (.s "") mk) ([]++R) (λnw=>lcm c ky lo td o kp du se pa nd px "pi" w (.s "") ("<?t"++""++"?>")) (λnw=>[]++R):=PX.go 1 [n 0,n 0,.keep []] (λU f=>a (yd)<|a (ado)<|a (adn)<|f (λU=>0))
theorem adw{o kp:Nat}{px:Nat}{w:V}{mk x:Str}(b:x.length<=1000)(h0:(x.length !=0)=true):PX (dK Y) 142 (dZ Y 195) ((mL Y).drop 1) (((mL Y).drop 1).drop 1) (lcm c ky lo td o kp du se pa nd px "pi" w (.s x) mk) ([]++R) (λnw=>lcm c ky lo td o kp du se pa nd px "pi" w (.s x) ("<?t"++(" "++eV x)++"?>")) (λnw=>[]++R):=PX.go 1 [n 0,.n 1,.call 61 [0] (λU U=>.s (eV x)) (λq U=>[(q 0,.d (rG R0))]) (λU U=>R),.keep []] (λU f=>a (sE (h3 b))<|a (h0)<|a (ndG)<|λe=>a (Br Y R x e (h3 b))<|λ(g:Pl)=>a (ahs b)<|a (ahr b)<|a (ahq b)<|f (λU=>0))
theorem adv{o kp:Nat}{px:Nat}{mk:Str}{w m:V}{ps:List V}(d:mk.length<1000000)(hd:du.length<10000000):XS (dK Y) 142 (dZ Y 195) (lcm c ky lo td o kp du se pa nd px kd w m mk) ((mL Y).drop 2) ([(pa,.l (ps++[v]))]++R) (λnw=>.next) (λnw=>lcm c ky lo td o kp (du++mk) se pa nd px kd w m mk) (λnw=>[(pa,.l (ps++[v]))]++R):=XS.go [n 0,n 1,.n 1,.keep [0]] (λU f=>λb=>dH pa<|dH b<|a (Y0 ps v)<|a (dM hd d)<|f (λU=>0))
theorem adu{o kp:Nat}{px:Nat}{mk:Str}{w m v:V}{ps:List V}(h:se=true)(b:mk.length<1000000)(hd:du.length<10000000):XS (dK Y) 142 (dZ Y 195) (lcm c ky lo td o kp du se pa nd px kd w m mk) ((mL Y).drop 2) ([(pa,.l [])]++R) (λnw=>.next) (λnw=>lcm c ky lo td o kp (du++("\n"++mk)) se pa nd px kd w m mk) (λnw=>[(pa,.l [])]++R):=XS.go [n 0,n 1,n 0,.n 1,.keep [0]] (λU f=>λd=>dH pa<|dH d<|a (h)<|a (dM1 b)<|a (dM2 hd b)<|f (λU=>0))
theorem adt{o kp:Nat}{px:Nat}{mk:Str}{w m v:V}{ps:List V}(h:se=false)(b:mk.length<1000000)(hd:du.length<10000000):XS (dK Y) 142 (dZ Y 195) (lcm c ky lo td o kp du se pa nd px kd w m mk) ((mL Y).drop 2) ([(pa,.l [])]++R) (λnw=>.next) (λnw=>lcm c ky lo td o kp (du++(mk++"\n")) se pa nd px kd w m mk) (λnw=>[(pa,.l [])]++R):=XS.go [n 0,n 1,n 0,.n 2,.keep [0]] (λU f=>λd=>dH pa<|dH d<|a (h)<|a (dM3 b)<|a (dM4 hd b)<|f (λU=>0))
end
section
open To
variable {R:LH}
abbrev xS(Y:Z)(k:Nat):Expr:=(sO (iw Y)[k]?).1
abbrev BR(Y:Z)(k:Nat):Sc:=(px (xS Y k)).2.2.2
def Jr(c:Cf)(ky lo td o kp:Nat)(du:Str)(se:Bool)(pa nd pf:Nat)(tq:Str)(m:Nat):Loc:=qL c ky lo td o kp du se pa nd pf "start" (.s tq) (.r m)
def ls1(c:Cf)(ky lo td o kp:Nat)(du:Str)(se:Bool)(pa nd pf:Nat)(tq:Str)(m sh:Nat):Loc:=Jr c ky lo td o kp du se pa nd pf tq m++([("shown",.r sh)]:Loc)
def z6(c:Cf)(ky lo td o kp:Nat)(du:Str)(se:Bool)(pa nd pf:Nat)(tq:Str)(m sh us:Nat):Loc:=Jr c ky lo td o kp du se pa nd pf tq m++([("shown",.r sh),("used",.r us)]:Loc)
def Tz(l:List Expr):Expr:=l.headD e0
set_option backward.match.sparseCases false in
def cmQ:Expr->Expr
 |.Compare _ _ (b::_) _=>b
 |_=>e0
theorem EC.lcP{n:Nat}{L1:LH}(a:ji pe O scope=true)(c:gA iter=false)(h1:EE pe n O J iter L (λx=>.r (x 0)) l')(hp:∀x:Pl,(L1++[(x 0,dN.l xs)]).Perm (l' x))(hf:(jf target).any (λx=>((around scope.names J).lookup x).isSome)=false)(b:CT pe n scope.names (.el elt) gens target ifs xs (around scope.names J) L1 (λU=>ys) (λU=>L1))(hl:ys.length<=lim):EC pe (n+1) O J (.ListComp elt (⟨target,iter,ifs,0⟩::gens) scope p) L (λx=>.r (x 0)) (λx=>(x 0,.l ys)::L1):=by
 exact(EC.lc (p:=p) a c (.new (h1.perm (.refl _) hp)) hf b hl).perm (.refl _) λx=>by rw[aX]
theorem ab8(h:fO l):jq ((wH (dO l)).map λp=>V.s p.1) ((jT l).map λp=>V.s p.1.q):=by
 have j:((wH (dO l)).map λp=>V.s p.1)=l.map λp=>V.s p.1.q:=by
  unfold wH dO;rw[aR,aR];rfl
 rw[j];have f:l.length<=5:=aK h.len ();refine⟨.inr (List.all_eq_true.mpr λx m=>?_),by rw[aB];exact f,?_⟩
 obtain⟨p,_,rfl⟩:=aF m;rfl
 rw[FN f];obtain⟨r1,k⟩:=mW (d:=(⟨cJ,cJ,cJ,false⟩,cJ)) (lt:=λa c=>ltPair (V.s a.1.q) (V.s c.1.q)) (W3 h) f λa g b hb e=>by
  have i:=afJ h a g b hb e;obtain⟨k1,k2⟩:=MF a.1.q (aJ (h.mem a g)) b.1.q (aJ (h.mem b hb)) i;exact⟨k1,(if_neg i).trans k2⟩
 rw[Cm h r1 k]
def Io(c:Cf):c.fj.Perm c.lost:=by
 unfold Cf.fj Cf.lost;cases c.bl with
 |true=>exact List.reverse_perm [mD,"{v}z","z"]
 |false=>exact List.Perm.swap ..
def Q7(h:fO l):(jT l).filter (λp=>!c.fj.contains p.1.q)=jT (fY c l):=by
 obtain⟨h1,a⟩:=mX h;refine(Cm (h.fY c) ?_ (a.filter _)).symm;have e:(λp:N5×Str=>!c.fj.contains p.1.q)=λp=>!c.lost.contains p.1.q:=funext λp=>by rw[oh (Io c)]
 exact e▸h1.filter _
def afo{o kp:Nat}(b:fO at'):EE (dK Y) 40 (dZ Y 195) (Jr c ky lo td o kp du se pa nd pf tq m) (Qq (xS Y 0)) ([(m,fG (dO at'))]++R) (λnw=>.r (nw 0)) (λnw=>[(m,fG (dO at')),(nw 0,.l ((jT at').map λp=>V.s p.1.q))]++R):=EE.go [n 0,.vals λU=>(jT at').map λp=>V.s p.1.q,.keep [0,1]] (λU f=>dH m<|a (ab8 b)<|λd=>f (λU=>d))
def abV{k:Str}{ls:List Str}:TT (dK Y) 40 (BR Y 0) (([("lost",.r lo),("key",.s k)]:Loc)) (Tz (Jh (xS Y 0))) ([(lo,.l (ls.map .s))]++R) (λnw=>!ls.contains k) (λnw=>[(lo,.l (ls.map .s))]++R):=TT.go [n 0,.strs ls,.n 0,.keep [0]] (λU f=>dH lo<|a (gb ls)<|f (λU=>0))
theorem afg(Y:Z)(c:Cf)(R:LH)(ky lo td o kp:Nat)(du:Str)(se:Bool)(pa nd pf:Nat)(tq:Str)(m:Nat)(b:fO at'):EC (dK Y) 41 (dZ Y 195) (Jr c ky lo td o kp du se pa nd pf tq m) (xS Y 0) ([(lo,.l (c.fj.map .s)),(m,fG (dO at'))]++R) (λx=>.r (x 0)) (λx=>[(lo,.l (c.fj.map .s)),(m,fG (dO at')),(x 0,.l ((jT (fY c at')).map λp=>V.s p.1.q))]++R):=by
 have d:CT (dK Y) 40 (BR Y 0) (.el (px (xS Y 0)).1) [] (Px (xS Y 0)) (Jh (xS Y 0)) ((jT at').map λp=>V.s p.1.q) (around (BR Y 0) (Jr c ky lo td o kp du se pa nd pf tq m)) _ (λU=>(jT at').flatMap λp=>if c.fj.contains p.1.q=true then[]else[V.s p.1.q]) _:=
  CT.flat λp hp=>⟨_,λU U=>by kernel_rfl,by
   have e:=abV (Y:=Y) (R:=[(m,fG (dO at'))]++R) (lo:=lo) (k:=p.1.q) (ls:=c.fj);have a:=EY.one e;cases hc:c.fj.contains p.1.q with
   |true=>
    rw[hc]at a;exact .inr ⟨a,if_pos rfl⟩
   |false=>
    rw[hc]at a;rw[if_neg Bool.false_ne_true];exact .inl ⟨a,BK.el (EE.name (x:="key") rfl)⟩⟩
 have f:((jT at').flatMap λp=>if c.fj.contains p.1.q=true then[]else[V.s p.1.q])=(jT (fY c at')).map λp=>V.s p.1.q:=by
  rw[<- Q7 b]
  induction jT at' with
  |nil=>rfl
  |cons p l ih=>
   rw[cX,cT,ih];cases c.fj.contains p.1.q <;> rfl
 rw[f]at d;have hlen:((jT (fY c at')).map λp=>V.s p.1.q).length<=lim:=by
  rw[aB,show(jT (fY c at')).length=(fY c at').length from nJ (aK (b.fY c).len ())];exact aK (b.fY c).len ()
 have key:EC (dK Y) 41 (dZ Y 195) (Jr c ky lo td o kp du se pa nd pf tq m) (xS Y 0) _ (λx=>.r (x 0)) _:=
  EC.lcP rfl rfl (afo (R:=[(lo,.l (c.fj.map .s))]++R) b) (λx=>(c7 (l₂:=[(x 0,_)])).trans (.trans (.cons _ (.swap ..)) (.swap ..))) rfl d hlen
 exact key.perm (.swap ..) λx=>(List.Perm.cons _ (.swap ..)).trans (.swap ..)
end
section
open To
variable {R:LH}
abbrev xS1(Y:Z):Expr:=cmQ (Tz (Jh (xS Y 1)))
abbrev Ye(Y:Z):Sc:=(px (xS1 Y)).2.2.2
noncomputable def uU:List Str:=["","e","u","v"]
def afl:EE (dK Y) 50 (dZ Y 195) (J) (Qq (xS Y 1)) ([]++R) (λnw=>.r (nw 0)) (λnw=>[(nw 0,.l (uU.map .s))]++R):=EE.go [.keep [0]] (λU f=>λa=>f (λU=>a))
def afm(d:1+xs.length<=lim):EE (dK Y) 40 (BR Y 1) (([("what",.s tq),("shown",.r sh),("uri",.s u)]:Loc)) (Qq (xS1 Y)) ([(sh,.l xs)]++R) (λnw=>.r (nw 0)) (λnw=>[(sh,.l xs),(nw 0,.l (.s tq::xs))]++R):=EE.go [n 1,n 0,.keep [0,2]] (λU f=>λc=>dH c<|dH sh<|a (d)<|λb=>f (λU=>b))
def afn{m:N5}(b:m∈iz):EE (dK Y) 40 (Ye Y) (([("key",.s m.q)]:Loc)) ((px (xS1 Y)).1) ([]++R) (λnw=>.s m.uri) (λnw=>[]++R):=EE.go [.call 31 [] (λU U=>.s m.uri) (λU U=>[]) (λU U=>R),.keep []] (λU f=>a (Pr Y R (Al b))<|λ(c:Pl)=>f (λU=>0))
theorem afd(Y:Z)(R:LH)(sh:Nat)(t:N5)(u:Str)(c:∀m∈t::ms,m∈iz)(hl:1+ms.length<=lim):EC (dK Y) 41 (BR Y 1) ([("what",.s t.q),("shown",.r sh),("uri",.s u)]:Loc) (xS1 Y) ([(sh,.l (ms.map λm=>V.s m.q))]++R) (λx=>.r (x 0)) (λx=>[(sh,.l (ms.map λm=>V.s m.q)),(x 0,.l (((t::ms).map (·.uri)).map .s))]++R):=by
 have b:CT (dK Y) 40 (Ye Y) _ [] (Px (xS1 Y)) [] ((t::ms).map λm=>V.s m.q) (around (Ye Y) ([("what",.s t.q),("shown",.r sh),("uri",.s u)]:Loc)) ([(sh,.l (ms.map λm=>V.s m.q))]++R) _ _:=
  CT.each λm a=>⟨_,λU U=>by kernel_rfl,afn (c m a)⟩
 rw[show((t::ms).map (·.uri)).map V.s=(t::ms).map λm=>V.s m.uri from aR];have key:EC (dK Y) 41 (BR Y 1) _ (xS1 Y) _ _ _:=
  EC.lcP rfl rfl (afm (R:=R) (by rw[aB];exact hl)) (λx=>(c7).trans (.swap ..)) rfl b (by rw[aB,aO,Nat.add_comm];exact hl)
 exact key.perm (.refl _) λx=>.swap ..
theorem abU{t:N5}(c:∀m∈t::ms,m∈iz)(hl:1+ms.length<=lim):TT (dK Y) 50 (BR Y 1) (([("what",.s t.q),("shown",.r sh),("uri",.s u)]:Loc)) (Tz (Jh (xS Y 1))) ([(sh,.l (ms.map λm=>V.s m.q))]++R) (λnw=>((t::ms).map (·.uri)).contains u) (λnw=>[(sh,.l (ms.map λm=>V.s m.q))]++R):=TT.go [.call 41 [0] (λU x=>.r (x 0)) (λU x=>[(sh,.l (ms.map λm=>V.s m.q)),(x 0,.l (((t::ms).map (·.uri)).map .s))]) (λU U=>R),n 1,.strs ((t::ms).map (·.uri)),.n 0,.keep [0]] (λU f=>a (afd Y R sh t u c hl)<|λ(b:Pl)=>a (e (b 0))<|a (gb ((t::ms).map (·.uri)))<|f (λU=>0))
theorem afc(Y:Z)(c:Cf)(R:LH)(ky lo td o kp:Nat)(du:Str)(se:Bool)(pa nd pf m sh:Nat)(t:N5)(b:∀m∈t::ms,m∈iz)(hl:1+ms.length<=lim):EC (dK Y) 51 (dZ Y 195) (ls1 c ky lo td o kp du se pa nd pf t.q m sh) (xS Y 1) ([(sh,.l (ms.map λm=>V.s m.q))]++R) (λx=>.r (x 0)) (λx=>[(sh,.l (ms.map λm=>V.s m.q)),(x 0,.l ((uU.filter λu=>((t::ms).map (·.uri)).contains u).map .s))]++R):=by
 have a:CT (dK Y) 50 (BR Y 1) (.el (px (xS Y 1)).1) [] (Px (xS Y 1)) (Jh (xS Y 1)) (uU.map .s) (around (BR Y 1) (ls1 c ky lo td o kp du se pa nd pf t.q m sh)) _ _ _:=
  CT.Us λu U=>⟨([("what",.s t.q),("shown",.r sh),("uri",.s u)]:Loc),λU U=>by kernel_rfl,abU (R:=R) b hl,EE.name (x:="uri") rfl⟩
 have key:EC (dK Y) 51 (dZ Y 195) _ (xS Y 1) _ (λx=>.r (x 0)) _:=
  EC.lcP rfl rfl (afl) (λx=>c7 (l₂:=[(x 0,_)])) rfl a (by rw[aB];exact aK (dF _ _) (show 4<=lim from fM rfl))
 exact key.perm (.refl _) λx=>.swap ..
def agz(h:(u=="")=false):TT (dK Y) 50 (BR Y 2) (([("rewriting",.b c.rw),("uri",.s u)]:Loc)) (Tz (Jh (xS Y 2))) ([]++R) (λnw=>true) (λnw=>[]++R):=TT.go [.n 1,.keep []] (λU f=>a (Dc h)<|f (λU=>0))
def agy(h:(u=="")=true)(hc:c.rw=true):TT (dK Y) 50 (BR Y 2) (([("rewriting",.b c.rw),("uri",.s u)]:Loc)) (Tz (Jh (xS Y 2))) ([]++R) (λnw=>true) (λnw=>[]++R):=TT.go [.n 2,.n 1,.keep []] (λU f=>a (YS h)<|a (hc)<|f (λU=>0))
def agx(h:(u=="")=true)(hc:c.rw=false):TT (dK Y) 50 (BR Y 2) (([("rewriting",.b c.rw),("uri",.s u)]:Loc)) (Tz (Jh (xS Y 2))) ([]++R) (λnw=>false) (λnw=>[]++R):=TT.go [.n 2,.n 2,.keep []] (λU f=>a (YS h)<|a (hc)<|f (λU=>0))
theorem afb(Y:Z)(c:Cf)(R:LH)(ky lo td o kp:Nat)(du:Str)(se:Bool)(pa nd pf:Nat)(tq:Str)(m sh us:Nat){l:List Str}(hl:l.length<=4):EC (dK Y) 51 (dZ Y 195) (z6 c ky lo td o kp du se pa nd pf tq m sh us) (xS Y 2) ([(us,.l (l.map .s))]++R) (λx=>.r (x 0)) (λx=>[(us,.l (l.map .s)),(x 0,.l ((l.filter λu:Str=>!(u==("":Str))||c.rw).map .s))]++R):=
 EC.mp (CT.Us λu U=>⟨[("rewriting",.b c.rw),("uri",.s u)],λU U=>by kernel_rfl,(by
  cases h:_==("":Str)with
  |true=>
   by_cases hc:c.rw=true
   ·rw[show(!true||c.rw)=true by rw[hc];rfl];exact agy h hc
   ·have hc:c.rw=false:=by simpa using hc
    rw[show(!true||c.rw)=false by rw[hc];rfl];exact agx h hc
  |false=>exact agz h),EE.name rfl⟩) (fl4 hl)
end
section
open To
variable {R:LH}
set_option backward.match.sparseCases false in
def PN:Expr->Expr
 |.Call _ (a::_) _ _=>a
 |_=>e0
abbrev x3(Y:Z):Expr:=PN (xS Y 3)
abbrev sc3(Y:Z):Sc:=(px (x3 Y)).2.2.2
set_option backward.match.sparseCases false in
def ifA:Expr->Expr
 |.IfExp _ a _ _=>a
 |_=>e0
abbrev x4(Y:Z):Expr:=ifA (xS Y 4)
abbrev sc4(Y:Z):Sc:=(px (x4 Y)).2.2.2
abbrev x5(Y:Z):Expr:=PN (xS Y 5)
abbrev Ro(Y:Z):Sc:=(px (x5 Y)).2.2.2
abbrev Xf(Y:Z):Expr:=cmQ (Tz (Jh (x5 Y)))
abbrev Yg(Y:Z):Sc:=(px (Xf Y)).2.2.2
set_option backward.match.sparseCases false in
def cG2(e:Expr):List Comprehension:=(px e).2.2.1.tail
def ahY(e:Expr):Expr:=(cG2 e).head?.elim e0 (·.iter)
noncomputable def nuS(ns:List Str)(u:Str):Str:="n"++(toString ((ns.idxOf u:Nat):Int):String)
def V8(ns:List Str):List (Str×V):=ns.map λu=>(u,.s (nuS ns u))
def i4k:∀k:Nat,k<10->(k:Int).natAbs.log2<1920/\("n":Str).length+(Str.ofString (toString (k:Int))).length<=10:=by decide+kernel
def i4l{ns:List Str}(a:ns.length<=5):ns.idxOf u<10:=aU List.idxOf_le_length ()
def i4a{ns:List Str}(a:u∈ns)(b:ns.length<=5):u∈ns/\ns.length<=1000:=⟨a,aK b ()⟩
def i4b{ns:List Str}(u:Str)(a:ns.length<=5):((ns.idxOf u:Nat):Int).natAbs.log2<1920:=(i4k _ (i4l a)).1
def i4c{ns:List Str}(u:Str)(a:ns.length<=5):("n":Str).length+(Str.ofString (toString ((ns.idxOf u:Nat):Int))).length<=lim:=aK (i4k _ (i4l a)).2 ()
section
variable {pe:Pe} {n:Nat} {J:Loc} {α:Type} {f:α->V} {N:List α} {g:α->List V} {q:Nat}
theorem CS.flat(i:(q,dN.l xs)∈L):(∀p∈N,∃eE,(∀H,Has H L->iB O H target (f p) J=some eE)/\ZZ pe (λcx U H H'=>zf cx n O eE ifs H true H') L (λU=>L)/\ZZ pe (λcx U H H'=>Fb cx n O em gens eE H (g p) H') L (λU=>L))->∀⦃cx⦄,eY pe cx->∀{H H0:Hp},Has H L->H0.f q=.l xs->∃H',Ho cx n O em gens target ifs J (some q) H0 (N.map f) H (N.flatMap g) H'/\Tp H L H' L:=by
 induction N with
 |nil=>exact λU {cx} U {H H0} a U=>⟨H,El,.refl a⟩
 |cons p N ih=>
  intro h cx P H H0 a h0;obtain⟨l1,hb,h1,c⟩:=h p (.head _);obtain⟨_,H1,b,t1⟩:=h1 P H a;obtain⟨_,H2,j,t2⟩:=c P H1 t1.has;obtain⟨H3,e,k⟩:=ih (λy d=>h y (.tail _ d)) P t2.has h0;refine⟨H3,yJ (hb H a) b j ?_ e,(t1.trans t2).trans k⟩;show H2.f q=H0.f q;rw[h0];exact(t2.has.el (q,.l xs) i).2
end
theorem EC.dcS{n:Nat}{u v:Expr}{α:Type}{f:α->V}{N:List α}{g:α->V}{q:Nat}(e:ji pe O scope=true)(m:gA iter=false)(h1:EE pe n O J iter L (λU=>.r q) (λU=>L))(i:(q,dN.l (N.map f))∈L)(hf:(jf target).any (λx=>((around scope.names J).lookup x).isSome)=false)(h:∀p∈N,∃eE,(∀H,Has H L->iB scope.names H target (f p) (around scope.names J)=some eE)/\ZZ pe (λcx U H H'=>Fb cx n scope.names (.kv u v) [] eE H [g p] H') L (λU=>L))(hl:N.length<=lim):EC pe (n+1) O J (.DictComp u v [⟨target,iter,[],0⟩] scope p) L (λx=>.r (x 0)) (λx=>(x 0,.d (iu (N.map g)))::L):=λU P H o=>by
 obtain⟨y,H1,k,t1⟩:=h1 P H o;have c:=(t1.has.el _ i).2;obtain⟨H2,j,t2⟩:=CS.flat (g:=λp=>[g p]) (ifs:=[]) (f:=f) (N:=N) i (λp hp=>by
  obtain⟨l1,a,b⟩:=h p hp;exact⟨l1,a,EY.nil,b⟩) P t1.has c
 rw[show(N.flatMap λp=>[g p])=N.map g from List.map_eq_flatMap.symm]at j;exact⟨λU=>H2.n,_,afG P e m k (jz c) hf j (by rw[aB];exact hl) rfl,(t1.trans t2).trans (.new t2.has)⟩
def abO{ns:List Str}:TT (dK Y) 50 (sc3 Y) (([("needed",.r nd),("uri",.s u)]:Loc)) (Tz (Jh (x3 Y))) ([(nd,.l (ns.map .s))]++R) (λnw=>!ns.contains u) (λnw=>[(nd,.l (ns.map .s))]++R):=TT.go [n 0,.strs ns,.n 0,.keep [0]] (λU f=>dH nd<|a (gb ns)<|f (λU=>0))
theorem afa(Y:Z)(c:Cf)(R:LH)(ky lo td o kp:Nat)(du:Str)(se:Bool)(pa nd pf:Nat)(tq:Str)(m sh us:Nat)(ns:List Str){l:List Str}(hl:l.length<=4):EC (dK Y) 51 (dZ Y 195) (z6 c ky lo td o kp du se pa nd pf tq m sh us) (x3 Y) ([(nd,.l (ns.map .s)),(us,.l (l.map .s))]++R) (λx=>.r (x 0)) (λx=>[(nd,.l (ns.map .s)),(us,.l (l.map .s)),(x 0,.l ((l.filter λu=>!ns.contains u).map .s))]++R):=
 ZZ.perm (EC.mp (CT.Us λu U=>⟨[("needed",.r nd),("uri",.s u)],λU U=>by kernel_rfl,abO,EE.name rfl⟩) (fl4 hl)) (.swap ..) λU=>(List.Perm.swap ..).trans (.cons _ (.swap ..))
def aiw(c:u∈ns)(b:ns.length<=5):EE (dK Y) 50 (sc4 Y) (([("needed",.r nd),("uri",.s u)]:Loc)) ((px (x4 Y)).2.1) ([(nd,.l (ns.map .s))]++R) (λnw=>.s (nuS ns u)) (λnw=>[(nd,.l (ns.map .s))]++R):=EE.go [n 0,.strs ns,.keep [0]] (λU f=>dH nd<|dH nd<|a (gb ns)<|a (i4a c b)<|a (i4b u b)<|a (i4c u b)<|f (λU=>0))
theorem ae9(Y:Z)(c:Cf)(R:LH)(ky lo td o kp:Nat)(du:Str)(se:Bool)(pa nd pf:Nat)(tq:Str)(m sh us:Nat)(a:ns.length<=5)(hd:ns.Nodup):EC (dK Y) 51 (dZ Y 195) (z6 c ky lo td o kp du se pa nd pf tq m sh us) (x4 Y) ([(nd,.l (ns.map .s))]++R) (λx=>.r (x 0)) (λx=>[(nd,.l (ns.map .s)),(x 0,.d (V8 ns))]++R):=by
 have e:iu (ns.map λu=>V.t [.s u,.s (nuS ns u)])=V8 ns:=by
  have k:=jG (l:=V8 ns) (by
   unfold V8;rw[aR];show(ns.map id).Nodup;rw[List.map_id];exact hd)
  rw[<- k];unfold V8;rw[aR];rfl
 have key:EC (dK Y) 51 (dZ Y 195) (z6 c ky lo td o kp du se pa nd pf tq m sh us) (x4 Y) ([(nd,.l _)]++R) _ _:=
  EC.dcS rfl rfl (EE.name rfl) (.head _) rfl (λu b=>⟨_,λU U=>by kernel_rfl,BK.kv (EE.name rfl) (aiw b a)⟩) (aK a ())
 rw[e]at key;exact key.perm (.refl _) λx=>.swap ..
theorem ab5{o kp:Nat}(hc:c.rw=true)(e:ns.length<=5)(hd:ns.Nodup):XX (dK Y) 143 (dZ Y 195) (z6 c ky lo td o kp du se pa nd pf tq m sh us) (Internal.fs (iw Y)[4]?) ([(nd,.l (ns.map .s)),(pf,.d kvs)]++R) (λnw=>.next) (λnw=>z6 c ky lo td o kp du se pa nd (nw 0) tq m sh us) (λnw=>[(nd,.l (ns.map .s)),(nw 0,.d (V8 ns))]++R):=XX.go [.n 1,.call 51 [0] (λU x=>.r (x 0)) (λU x=>[(nd,.l (ns.map .s)),(x 0,.d (V8 ns))]) (λU U=>R),.keep [0,2]] (λU f=>a (hc)<|a (ae9 Y c R ky lo td o kp du se pa nd pf tq m sh us e hd)<|λb=>f (b))
def ab6{o kp:Nat}(hc:c.rw=false):XX (dK Y) 143 (dZ Y 195) (z6 c ky lo td o kp du se pa nd pf tq m sh us) (Internal.fs (iw Y)[4]?) ([]++R) (λnw=>.next) (λnw=>z6 c ky lo td o kp du se pa nd pf tq m sh us) (λnw=>[]++R):=XX.go [.n 2,.keep []] (λU f=>a (hc)<|f (λU=>0))
end
section
open To
variable {R:LH}
noncomputable def l5(pa pf:Nat)(u:Str):Loc:=[("path",.r pa),("prefixes",.r pf),("uri",.s u)]
def mC(rs:List (PR×Nat)):List V:=rs.map λp=>lQ p.1.f p.2 p.1.pb
noncomputable def oA(rs:List (PR×Nat)):LH:=rs.map λp=>(p.2,dN.l (p.1.us.map .s))
noncomputable def yX(rs:List (PR×Nat)):List Str:=rs.flatMap λp=>p.1.us
def aaw{u:Nat}:EE (dK Y) 50 (Yg Y) (([("row",lQ g u b)]:Loc)) (ahY (Xf Y)) ([]++R) (λnw=>.r u) (λnw=>[]++R):=EE.go [.n 0,.keep []] (λU f=>f (λU=>0))
def afk(h:kvs.lookup u=some (.s p)):EE (dK Y) 54 (Ro Y) (l5 pa pf u) ((px (x5 Y)).1) ([(pf,.d kvs)]++R) (λnw=>.t [.s p,.s u]) (λnw=>[(pf,.d kvs)]++R):=EE.go [n 0,.val λU=>.s p,.keep [0]] (λU f=>dH pf<|a (h)<|f (λU=>0))
def abN{fl:List Str}(h:EC (dK Y) 51 (Ro Y) (l5 pa pf u) (Xf Y) ([]++R) (λx=>.r (x 0)) (λx=>[(x 0,.l (fl.map .s))]++R)):TT (dK Y) 54 (Ro Y) (l5 pa pf u) (Tz (Jh (x5 Y))) ([]++R) (λnw=>!fl.contains u) (λnw=>[]++R):=TT.go [.call 51 [] (λU x=>.r (x 0)) (λU x=>[(x 0,.l (fl.map .s))]) (λU U=>R),n 0,.strs fl,.n 0,.keep []] (λU f=>a (h)<|λ(b:Pl)=>a (e (b 0))<|a (gb fl)<|f (λU=>0))
theorem ae8(Y:Z)(R:LH)(pa pf:Nat)(u:Str)(hl:(yX rs).length<=lim):EC (dK Y) 51 (Ro Y) (l5 pa pf u) (Xf Y) ((oA rs++R)++[(pa,.l (mC rs))]) (λx=>.r (x 0)) (λx=>(x 0,.l ((yX rs).map .s))::((oA rs++R)++[(pa,.l (mC rs))])):=by
 have c:CT (dK Y) 50 (Yg Y) (.el (px (Xf Y)).1) (cG2 (Xf Y)) (Px (Xf Y)) [] (mC rs) (around (Yg Y) (l5 pa pf u)) (oA rs++R) (λU=>rs.flatMap λp=>p.1.us.map .s) (λU=>oA rs++R):=by
  refine CT.flat λp hp=>⟨([("row",lQ p.1.f p.2 p.1.pb)]:Loc),λU U=>by kernel_rfl,.inl ⟨EY.nil,?_⟩⟩;have h:(p.2,dN.l _)∈oA rs++R:=cH _ (aJ hp);obtain⟨d,A2,g⟩:=List.append_of_mem h;have a:(oA rs++R).Perm ((d++A2)++[(p.2,dN.l (p.1.us.map V.s))]):=by
   rw[g];exact List.perm_middle.trans (c7 (l₁:=[(p.2,dN.l _)]))
  exact BK.next rfl (.old ((aaw (R:=oA rs++R)).perm (.refl _) λU=>a.symm)) a rfl (CT.each λx U=>⟨([("row",lQ p.1.f p.2 p.1.pb),("one",.s x)]:Loc),λU U=>by kernel_rfl,EE.name rfl⟩)
 have e:(rs.flatMap λp=>p.1.us.map V.s)=(yX rs).map .s:=by unfold yX;rw[List.map_flatMap]
 rw[e]at c;exact EC.lcO rfl rfl (λL=>EE.name rfl) rfl c (by rw[aB];exact hl)
theorem ae7(Y:Z)(c:Cf)(R:LH)(ky lo td o kp:Nat)(du:Str)(se:Bool)(pa nd pf:Nat)(tq:Str)(m sh us:Nat){l:List Str}(hl:(yX rs).length<=lim)(f:l.length<=4)(hk:∀u∈l,kvs.lookup u=some (.s (pr u))):EC (dK Y) 55 (dZ Y 195) (z6 c ky lo td o kp du se pa nd pf tq m sh us) (x5 Y) ([(us,.l (l.map .s)),(pf,.d kvs),(pa,.l (mC rs))]++(oA rs++R)) (λx=>.r (x 0)) (λx=>(x 0,.l ((l.filter λu=>!(yX rs).contains u).map λu=>V.t [.s (pr u),.s u]))::([(us,.l (l.map .s)),(pf,.d kvs),(pa,.l (mC rs))]++(oA rs++R))):=by
 have b:([(pf,dN.d kvs)]++([(pa,dN.l (mC rs))]++(oA rs++R))).Perm ((oA rs++((pf,dN.d kvs)::R))++[(pa,dN.l (mC rs))]):=by
  refine List.Perm.trans ?_ c7;refine(List.Perm.swap ..).trans (.cons _ ?_);exact(cG (l₂:=R)).symm
 exact ZZ.perm (EC.mp (L:=[(pf,.d kvs),(pa,.l (mC rs))]++(oA rs++R)) (CT.Us λu e=>⟨l5 pa pf u,λU U=>by kernel_rfl,abN (R:=[(pf,.d kvs)]++([(pa,.l (mC rs))]++(oA rs++R))) ((λu=>(ae8 Y ((pf,dN.d kvs)::R) pa pf u hl).perm b λx=>by exact List.Perm.cons _ b) u),afk (hk u e)⟩) (fl4 f)) (.refl _) λU=>.swap ..
end
section
open To
variable {R:LH}
def ls5(c:Cf)(ky lo td o kp:Nat)(du:Str)(se:Bool)(pa nd pf:Nat)(tq:Str)(m sh us qz:Nat):Loc:=Jr c ky lo td o kp du se pa nd pf tq m++([("shown",.r sh),("used",.r us),("new",.r qz)]:Loc)
def ls6(c:Cf)(ky lo td o kp:Nat)(du:Str)(se:Bool)(pa nd pf:Nat)(tq:Str)(m sh us qz ro:Nat):Loc:=Jr c ky lo td o kp du se pa nd pf tq m++([("shown",.r sh),("used",.r us),("new",.r qz),("rows",.r ro)]:Loc)
abbrev x8(Y:Z):Expr:=PN (xS Y 8)
abbrev sc8(Y:Z):Sc:=(px (x8 Y)).2.2.2
noncomputable def l8(pf m:Nat)(k:Str):Loc:=[("prefixes",.r pf),("more",.r m),("key",.s k)]
noncomputable def Wo(p:Str):Str:=if p.length=0 then"xmlns"++"" else"xmlns"++(":"++p)
def Qs(pr:Str->Str)(t:N5):Str:=bif t.br then lF (pr t.uri) t.tag else t.q
def lb1{p:Str}(h:p.length<1000):(":":Str).length+p.length<=lim:=aK (dg (show(":":Str).length<=1 from fM rfl) (cj h)) ()
def lb2(h:p.length<1000):("xmlns":Str).length+(":"++p:Str).length<=lim:=by
 rw[fJ];exact aK (dg (show("xmlns":Str).length<=5 from fM rfl) (dg (show(":":Str).length<=1 from fM rfl) (cj h))) ()
def lb0:("xmlns":Str).length+("":Str).length<=lim:=fM rfl
def eqE(h:p.length=0):(p==("":Str))=true:=by rw[jQ h];exact bA _
def ade(h:p.length≠0):(p==("":Str))=false:=bB λe=>h (by rw[e];exact rfl)
def aiv{p:Str}(h:(p=="")=false)(hl:p.length<1000):EE (dK Y) 50 (BR Y 6) (([("prefix",.s p),("uri",.s u)]:Loc)) ((px (xS Y 6)).1) ([]++R) (λnw=>.t [.s ("xmlns"++(":"++p)),.s u]) (λnw=>[]++R):=EE.go [.n 1,.keep []] (λU f=>a (Dc h)<|a (lb1 hl)<|a (lb2 hl)<|f (λU=>0))
def aiu{p:Str}(h:(p=="")=true):EE (dK Y) 50 (BR Y 6) (([("prefix",.s p),("uri",.s u)]:Loc)) ((px (xS Y 6)).1) ([]++R) (λnw=>.t [.s ("xmlns"++""),.s u]) (λnw=>[]++R):=EE.go [.n 2,.keep []] (λU f=>a (YS h)<|a (lb0)<|f (λU=>0))
def ait(hl:p.length<1000):EE (dK Y) 50 (BR Y 6) ([("prefix",.s p),("uri",.s u)]:Loc) (px (xS Y 6)).1 R (λU=>.t [.s (Wo p),.s u]) (λU=>R):=by
 unfold Wo;by_cases h:p.length=0
 rw[if_pos h];exact aiu (eqE h)
 rw[if_neg h];exact aiv (ade h) hl
theorem ae6(Y:Z)(c:Cf)(R:LH)(ky lo td o kp:Nat)(du:Str)(se:Bool)(pa nd pf:Nat)(tq:Str)(m sh us qz:Nat){l:List Str}(b:l.length<=4)(hl:∀u∈l,(pr u).length<1000):EC (dK Y) 51 (dZ Y 195) (ls5 c ky lo td o kp du se pa nd pf tq m sh us qz) (xS Y 6) ([(qz,.l (l.map λu=>V.t [.s (pr u),.s u]))]++R) (λx=>.r (x 0)) (λx=>[(qz,.l (l.map λu=>V.t [.s (pr u),.s u])),(x 0,.l (l.map λu=>V.t [.s (Wo (pr u)),.s u]))]++R):=
 EC.mp (CT.each λu a=>⟨[("prefix",.s _),("uri",.s u)],λU U=>by kernel_rfl,ait (hl u a)⟩) (by rw[aB];exact aK b ())
theorem ais{t:N5}{v:Str}{mk:List (Str×V)}(c:Jt t.q t.uri t.tag true)(h:mk.lookup t.q=some (.s v))(hp:(kvs.lookup t.uri).getD (.s "")=.s g)(e:g.length<1000):EE (dK Y) 60 (sc8 Y) (l8 pf m t.q) ((px (x8 Y)).1) ([(pf,.d kvs),(m,.d mk)]++R) (λnw=>.t [.s (lF g t.tag),.s v]) (λnw=>[(pf,.d kvs),(m,.d mk)]++R):=EE.go [.n 1,.call 41 [0] (λU U=>.s (lF g t.tag)) (λU U=>[(pf,.d kvs)]) (λU U=>R),n 1,.val λU=>.s v,.keep [0,1]] (λU f=>a (lL c.ln)<|a (c.b)<|a (yM Y R (p:=pf) c hp e)<|λ(i:Pl)=>dH m<|a (h)<|f (λU=>0))
def air{t:N5}{v:Str}{mk:List (Str×V)}(c:Jt t.q t.uri t.tag false)(e:mk.lookup t.q=some (.s v)):EE (dK Y) 60 (sc8 Y) (l8 pf m t.q) ((px (x8 Y)).1) ([(pf,.d kvs),(m,.d mk)]++R) (λnw=>.t [.s t.q,.s v]) (λnw=>[(pf,.d kvs),(m,.d mk)]++R):=EE.go [.n 2,n 1,.val λU=>.s v,.keep [0,1]] (λU f=>a (lL c.ln)<|a (c.b)<|dH m<|a (e)<|f (λU=>0))
theorem aiq{t:N5}{v:Str}{mk:List (Str×V)}(c:t∈iz)(b:mk.lookup t.q=some (.s v))(hp:(kvs.lookup t.uri).getD (.s "")=.s (pr t.uri))(e:(pr t.uri).length<1000):EE (dK Y) 60 (sc8 Y) (l8 pf m t.q) (px (x8 Y)).1 ([(pf,.d kvs),(m,.d mk)]++R) (λU=>.t [.s (Qs pr t),.s v]) (λU=>[(pf,.d kvs),(m,.d mk)]++R):=by
 have a:=Al c;unfold Qs;by_cases hb:t.br=true
 ·rw[hb]at a ⊢;exact ais a b hp e
 ·have hb:t.br=false:=by simpa using hb
  rw[hb]at a ⊢;exact air a b
theorem ae5(Y:Z)(c:Cf)(R:LH)(ky lo td o kp:Nat)(du:Str)(se:Bool)(pa nd pf:Nat)(tq:Str)(m sh us qz ro:Nat){l:List (N5×Str)}{mk:List (Str×V)}(a:l.length<=4)(hl:∀p∈l,p.1∈iz/\mk.lookup p.1.q=some (.s p.2)/\(kvs.lookup p.1.uri).getD (.s "")=.s (pr p.1.uri)/\(pr p.1.uri).length<1000):EC (dK Y) 61 (dZ Y 195) (ls6 c ky lo td o kp du se pa nd pf tq m sh us qz ro) (x8 Y) ([(sh,.l (l.map λp=>V.s p.1.q)),(pf,.d kvs),(m,.d mk)]++R) (λx=>.r (x 0)) (λx=>[(sh,.l (l.map λp=>V.s p.1.q)),(pf,.d kvs),(m,.d mk),(x 0,.l (l.map λp=>V.t [.s (Qs pr p.1),.s p.2]))]++R):=
 ZZ.perm (EC.mp (CT.each λp hp=>⟨l8 pf m p.1.q,λU U=>by kernel_rfl,have⟨a1,a2,a3,a4⟩:=hl p hp;aiq a1 a2 a3 a4⟩) (by rw[aB];exact aK a ())) (.refl _) λU=>.cons _ (cG (l₁:=[_,_]))
end
section
open To
variable {R:LH}
def yc(c:Cf)(ky lo td o kp:Nat)(du:Str)(se:Bool)(pa nd pf:Nat)(tq:Str)(m sh us qz ro:Nat)(sp:Str):Loc:=Jr c ky lo td o kp du se pa nd pf tq m++([("shown",.r sh),("used",.r us),("new",.r qz),("rows",.r ro),("space",.s sp)]:Loc)
def rS(p:Str×Str):Str:=" "++p.1++"=\""++mK p.2++"\""
def rs1{k:Str}(hk:k.length<10000):(" ":Str).length+k.length<=lim:=aK (dg (show(" ":Str).length<=1 from fM rfl) (cj hk)) ()
def rs2{k:Str}(hk:k.length<10000):(" "++k:Str).length+("=\"":Str).length<=lim:=by
 rw[fJ];exact aK (dg (dg (show(" ":Str).length<=1 from fM rfl) (cj hk)) (show("=\"":Str).length<=2 from fM rfl)) ()
def eA{v:Str}(h:v.length<=1000):(mK v).length<=600000:=lN (h3 h)
def rs3{k v:Str}(hk:k.length<10000)(a:v.length<=1000):(" "++k++"=\"":Str).length+(mK v).length<=lim:=by
 rw[fJ,fJ];exact aK (dg (dg (dg (show(" ":Str).length<=1 from fM rfl) (cj hk)) (show("=\"":Str).length<=2 from fM rfl)) (eA a)) ()
def rs4{k v:Str}(hk:k.length<10000)(a:v.length<=1000):(" "++k++"=\""++mK v:Str).length+("\"":Str).length<=lim:=by
 rw[fJ,fJ,fJ];exact aK (dg (dg (dg (dg (show(" ":Str).length<=1 from fM rfl) (cj hk)) (show("=\"":Str).length<=2 from fM rfl)) (eA a)) (show("\"":Str).length<=1 from fM rfl)) ()
def ahm:(([("\"",V.s "&quot;"),("\n",V.s "&#xA;"),("\t",V.s "&#x9;")]:List (Str×V)).map λx=>x.1).Nodup:=by decide+kernel
def q1:("<":Str).length<=1:=fM rfl
def q2:(">":Str).length<=1:=fM rfl
def aiI(hd:du.length<10000000):du.length+("<":Str).length<=lim:=aK () ()
def aiH(hd:du.length<10000000)(a:g.length<10000):(du++"<":Str).length+g.length<=lim:=by
 rw[fJ];exact aK (dg () (cj a)) ()
def aiG{j:Str}(hd:du.length<10000000)(a:g.length<10000)(b:j.length<1000000):(du++"<"++g:Str).length+j.length<=lim:=by
 rw[fJ,fJ];exact aK (dg (dg () (cj a)) (cj b)) ()
def aiF{j:Str}(hd:du.length<10000000)(a:g.length<10000)(b:j.length<1000000):(du++"<"++g++j:Str).length+(">":Str).length<=lim:=by
 rw[fJ,fJ,fJ];exact aK (dg (dg (dg () (cj a)) (cj b)) q2) ()
def ab3{o kp:Nat}(hc:c.bl=true):XX (dK Y) 143 (dZ Y 195) (ls6 c ky lo td o kp du se pa nd pf tq m sh us qz ro) (Internal.fs (iw Y)[9]?) ([]++R) (λnw=>.next) (λnw=>yc c ky lo td o kp du se pa nd pf tq m sh us qz ro cJ) (λnw=>[]++R):=XX.go [.n 1,.keep []] (λU f=>a (hc)<|f (λU=>0))
theorem ab4{o kp:Nat}{mk:List (Str×V)}(hc:c.bl=false)(h:some ((mk.lookup mD).getD (.s ""))=some (V.s sp)):XX (dK Y) 143 (dZ Y 195) (ls6 c ky lo td o kp du se pa nd pf tq m sh us qz ro) (Internal.fs (iw Y)[9]?) ([(m,.d mk),(ky,.l gj)]++R) (λnw=>.next) (λnw=>yc c ky lo td o kp du se pa nd pf tq m sh us qz ro sp) (λnw=>[(m,.d mk),(ky,.l gj)]++R):=XX.go [.n 2,n 0,n 1,.val λU=>.s mD,.val λU=>.s sp,.keep [0,1]] (λU f=>a (hc)<|dH m<|dH ky<|a (f1e mD)<|dH m<|a (h)<|f (λU=>0))
theorem XJ{o kp:Nat}{t:N5}{ps:List V}(i:Jt t.q t.uri t.tag br)(hp:(kvs.lookup t.uri).getD (.s "")=.s g)(e:g.length<1000)(h:(sp=="")=false)(hl:ps.length<900):XX (dK Y) 143 (dZ Y 195) (yc c ky lo td o kp du se pa nd pf t.q m sh us qz ro sp) (Internal.fs (iw Y)[10]?) ([(pa,.l ps),(pf,.d kvs)]++R) (λnw=>.next) (λnw=>yc c ky lo td o kp du se pa nd pf t.q m sh us qz ro sp) (λnw=>[(pa,.l (ps++[.t [.s (lF g t.tag),.r us,.b (sp=="preserve")]])),(pf,.d kvs)]++R):=XX.go [n 0,.call 41 [1] (λU U=>.s (lF g t.tag)) (λU U=>[(pf,.d kvs)]) (λU U=>R),.n 1,.keep [0,1]] (λU f=>dH pa<|a (yM Y R (p:=pf) i hp e)<|λ(j:Pl)=>a (Dc h)<|dH pa<|a (m8 hl)<|f (λU=>0))
theorem XH{o kp:Nat}{t:N5}{ps:List V}(j:Jt t.q t.uri t.tag br)(hp:(kvs.lookup t.uri).getD (.s "")=.s g)(i:g.length<1000)(h:(sp=="")=true)(hl:ps.length<900):XX (dK Y) 143 (dZ Y 195) (yc c ky lo td o kp du se pa nd pf t.q m sh us qz ro sp) (Internal.fs (iw Y)[10]?) ([(pa,.l []),(pf,.d kvs)]++R) (λnw=>.next) (λnw=>yc c ky lo td o kp du se pa nd pf t.q m sh us qz ro sp) (λnw=>[(pa,.l ([]++[.t [.s (lF g t.tag),.r us,.b false]])),(pf,.d kvs)]++R):=XX.go [n 0,.call 41 [1] (λU U=>.s (lF g t.tag)) (λU U=>[(pf,.d kvs)]) (λU U=>R),.n 2,n 0,n 2,n 0,.keep [0,1]] (λU f=>dH pa<|a (yM Y R (p:=pf) j hp i)<|λ(k:Pl)=>a (YS h)<|λe=>dH pa<|dH e<|dH pa<|a (ac9)<|f (λU=>0))
theorem XF{o kp:Nat}{t:N5}{ps:List V}{e:Str}{u2:Nat}{b2:Bool}(k:Jt t.q t.uri t.tag br)(hp:(kvs.lookup t.uri).getD (.s "")=.s g)(i:g.length<1000)(h:(sp=="")=true)(hl:ps.length<900):XX (dK Y) 143 (dZ Y 195) (yc c ky lo td o kp du se pa nd pf t.q m sh us qz ro sp) (Internal.fs (iw Y)[10]?) ([(pa,.l (ps++[lQ e u2 b2])),(pf,.d kvs)]++R) (λnw=>.next) (λnw=>yc c ky lo td o kp du se pa nd pf t.q m sh us qz ro sp) (λnw=>[(pa,.l ((ps++[lQ e u2 b2])++[.t [.s (lF g t.tag),.r us,.b b2]])),(pf,.d kvs)]++R):=XX.go [n 0,.call 41 [1] (λU U=>.s (lF g t.tag)) (λU U=>[(pf,.d kvs)]) (λU U=>R),.n 2,n 0,n 2,.n 1,n 0,.val λU=>lQ e u2 b2,.n 0,.keep [0,1]] (λU f=>dH pa<|a (yM Y R (p:=pf) k hp i)<|λ(u:Pl)=>a (YS h)<|λj=>dH pa<|dH j<|a (Y0 ps (lQ e u2 b2))<|dH pa<|a (gQ (xs:=ps) (x:=lQ e u2 b2))<|dH pa<|a ((dsL (lQ e u2 b2) hl))<|f (λU=>0))
theorem aax{k v:Str}(hk:k.length<10000)(b:v.length<=1000):EE (dK Y) 70 (BR Y 11) (([("key",.s k),("value",.s v)]:Loc)) ((px (xS Y 11)).1) ([]++R) (λnw=>.s (" "++k++"=\""++mK v++"\"")) (λnw=>[]++R):=EE.go [.call 61 [0] (λU U=>.s (mK v)) (λq U=>[(q 0,.d (rG nsA))]) (λU U=>R),.keep []] (λU f=>a (rs1 hk)<|a (rs2 hk)<|a (ahm)<|λc=>a ((by
 have h:=afC Y R v c (ns:=nsA) () (λz U=>by rw[abA];exact NQ) () (qO (by
  rw[<- nH,show Txt.join cJ _=mK v from ad1 v];exact aK (lN (h3 b)) ()))
 rw[ad1]at h;exact h))<|λ(e:Pl)=>a (rs3 hk b)<|a (rs4 hk b)<|f (λU=>0))
theorem aat(Y:Z)(c:Cf)(R:LH)(ky lo td o kp:Nat)(du:Str)(se:Bool)(pa nd pf:Nat)(tq:Str)(m sh us qz ro:Nat)(sp:Str){l:List (Str×Str)}(a:l.length<=10)(hl:∀p∈l,p.1.length<10000/\p.2.length<=1000):EC (dK Y) 71 (dZ Y 195) (yc c ky lo td o kp du se pa nd pf tq m sh us qz ro sp) (xS Y 11) ([(ro,.l (l.map pv))]++R) (λx=>.r (x 0)) (λx=>[(ro,.l (l.map pv)),(x 0,.l (l.map λp=>V.s (rS p)))]++R):=
 EC.mp (CT.each λp hp=>⟨[("key",.s p.1),("value",.s p.2)],λU U=>by kernel_rfl,aax (hl p hp).1 (hl p hp).2⟩) (by rw[aB];exact aK a ())
theorem zXa{o kp:Nat}{j u D q v ns pv:List V}{p:dN}{h:List (Str×V)}(h0:EC (dK Y) 41 (dZ Y 195) (Jr c ky lo td o kp du se pa nd pf tq m) (xS Y 0) ([(lo,.l j),(m,p)]++R) (λx=>.r (x 0)) (λx=>[(lo,.l j),(m,p),(x 0,.l u)]++R))(h1:∀sh,EC (dK Y) 51 (dZ Y 195) (ls1 c ky lo td o kp du se pa nd pf tq m sh) (xS Y 1) ([(sh,.l u)]++R) (λx=>.r (x 0)) (λx=>[(sh,.l u),(x 0,.l D)]++R))(Z:∀sh us,EC (dK Y) 51 (dZ Y 195) (z6 c ky lo td o kp du se pa nd pf tq m sh us) (xS Y 2) ([(us,.l D)]++R) (λx=>.r (x 0)) (λx=>[(us,.l D),(x 0,.l q)]++R))(h3:∀sh us,EC (dK Y) 51 (dZ Y 195) (z6 c ky lo td o kp du se pa nd pf tq m sh us) (x3 Y) ([(nd,.l ns),(us,.l q)]++R) (λx=>.r (x 0)) (λx=>[(nd,.l ns),(us,.l q),(x 0,.l v)]++R))(hn:ns.length+v.length<=lim)(Q:∀sh us,XX (dK Y) 143 (dZ Y 195) (z6 c ky lo td o kp du se pa nd pf tq m sh us) (Internal.fs (iw Y)[4]?) ([(nd,.l (ns++v)),(pf,.d kvs)]++R) (λU=>.next) (λx=>z6 c ky lo td o kp du se pa nd (x 0) tq m sh us) (λx=>[(nd,.l (ns++v)),(x 0,.d h)]++R)):PX (dK Y) 144 (dZ Y 195) (iw Y) ((iw Y).drop 5) (Jr c ky lo td o kp du se pa nd pf tq m) ([(lo,.l j),(ky,.l gj),(m,p),(nd,.l ns),(pf,.d kvs),(pa,.l pv)]++R) (λx=>z6 c ky lo td o kp du se pa nd (x 1) tq m (x 0) (x 2)) (λx=>[(lo,.l j),(ky,.l gj),(m,p),(nd,.l (ns++v)),(x 1,.d h),(pa,.l pv),(x 0,.l u),(x 2,.l q)]++R):=PX.go 5 [.call 41 [0,2] (λU x=>.r (x 0)) (λz x=>[(lo,.l j),(m,p),(x 0,.l u)]) (λU U=>R),.call 51 [6] (λU x=>.r (x 0)) (λz x=>[(z 6,.l u),(x 0,.l D)]) (λU U=>R),.call 51 [7] (λU x=>.r (x 0)) (λz x=>[(z 7,.l D),(x 0,.l q)]) (λU U=>R),n 3,.call 51 [3,8] (λU x=>.r (x 0)) (λz x=>[(nd,.l ns),(z 8,.l q),(x 0,.l v)]) (λU U=>R),n 9,.sta 143 [3,4] (λU U=>.next) (λz x=>z6 c ky lo td o kp du se pa nd (x 0) tq m (z 6) (z 8)) (λU x=>[(nd,.l (ns++v)),(x 0,.d h)]) (λU U=>R),.keep [0,1,2,3,4,5,6,8]] (λU f=>a (h0)<|λ(k:Pl)=>a (h1 (k 0))<|λ(m1:Pl)=>a (Z (k 0) (m1 0))<|λ(m2:Pl)=>dH nd<|a (h3 (k 0) (m2 0))<|λ(m3:Pl)=>a (e (m3 0))<|dH nd<|a (hn)<|a (Q (k 0) (m2 0))<|λ(t:Pl)=>f (Qi [k 0,t 0,m2 0]))
theorem XD{o kp:Nat}{j u q v ns pv H E y B:List V}{p:dN}{h:List (Str×V)}{l:List Str}(k0:PX (dK Y) 144 (dZ Y 195) (iw Y) ((iw Y).drop 5) (Jr c ky lo td o kp du se pa nd pf tq m) ([(lo,.l j),(ky,.l gj),(m,p),(nd,.l ns),(pf,.d kvs),(pa,.l pv)]++R) (λx=>z6 c ky lo td o kp du se pa nd (x 1) tq m (x 0) (x 2)) (λx=>[(lo,.l j),(ky,.l gj),(m,p),(nd,.l (ns++v)),(x 1,.d h),(pa,.l pv),(x 0,.l u),(x 2,.l q)]++R))(S:∀i sh us,EC (dK Y) 55 (dZ Y 195) (z6 c ky lo td o kp du se pa nd i tq m sh us) (x5 Y) ([(i,.d h),(pa,.l pv),(us,.l q)]++R) (λx=>.r (x 0)) (λx=>[(i,.d h),(pa,.l pv),(us,.l q),(x 0,.l H)]++R))(P:jq H E)(h6:∀i sh us nw,EC (dK Y) 51 (dZ Y 195) (ls5 c ky lo td o kp du se pa nd i tq m sh us nw) (xS Y 6) ([(nw,.l E)]++R) (λx=>.r (x 0)) (λx=>[(nw,.l E),(x 0,.l y)]++R))(h7:h.length<lim)(M:∀i sh us nw ro,EC (dK Y) 61 (dZ Y 195) (ls6 c ky lo td o kp du se pa nd i tq m sh us nw ro) (x8 Y) ([(m,p),(i,.d (eO h eG (.s "xml"))),(sh,.l u)]++R) (λx=>.r (x 0)) (λx=>[(m,p),(i,.d (eO h eG (.s "xml"))),(sh,.l u),(x 0,.l B)]++R))(L:y.length+B.length<=lim)(h9:∀i sh us nw ro,XX (dK Y) 143 (dZ Y 195) (ls6 c ky lo td o kp du se pa nd i tq m sh us nw ro) (Internal.fs (iw Y)[9]?) ([(ky,.l gj),(m,p)]++R) (λU=>.next) (λU=>yc c ky lo td o kp du se pa nd i tq m sh us nw ro sp) (λU=>[(ky,.l gj),(m,p)]++R))(G:∀i sh us nw ro,XX (dK Y) 143 (dZ Y 195) (yc c ky lo td o kp du se pa nd i tq m sh us nw ro sp) (Internal.fs (iw Y)[10]?) ([(i,.d (eO h eG (.s "xml"))),(pa,.l pv)]++R) (λU=>.next) (λU=>yc c ky lo td o kp du se pa nd i tq m sh us nw ro sp) (λU=>[(i,.d (eO h eG (.s "xml"))),(pa,.l (pv++[lQ g us b]))]++R))(I:∀i sh us nw ro,EC (dK Y) 71 (dZ Y 195) (yc c ky lo td o kp du se pa nd i tq m sh us nw ro sp) (xS Y 11) ([(ro,.l (y++B))]++R) (λx=>.r (x 0)) (λx=>[(ro,.l (y++B)),(x 0,.l (l.map .s))]++R))(N:JoinOk cJ l=true)(K:g.length<10000)(hd:du.length<10000000)(C:(jn l).length<1000000):XS (dK Y) 144 (dZ Y 195) (Jr c ky lo td o kp du se pa nd pf tq m) (iw Y) ([(lo,.l j),(ky,.l gj),(m,p),(nd,.l ns),(pf,.d kvs),(pa,.l pv)]++R) (λnw=>.next) (λnw=>yc c ky lo td o kp (du++"<"++g++jn l++">") true pa nd (nw 1) tq m (nw 0) (nw 2) (nw 3) (nw 4) sp) (λnw=>[(lo,.l j),(ky,.l gj),(m,p),(nd,.l (ns++v)),(nw 1,.d (eO h eG (.s "xml"))),(pa,.l (pv++[lQ g (nw 2) b])),(nw 2,.l q)]++R):=k0.zdn (λx y=>Qi [x 0,x 1,x 2,y 0,y 1]) λk=>XS.go [.call 55 [4,5,7] (λU x=>.r (x 0)) (λz x=>[(z 4,.d h),(pa,.l pv),(z 7,.l q),(x 0,.l H)]) (λU U=>R),n 8,.vals λU=>E,.call 51 [9] (λU x=>.r (x 0)) (λz x=>[(z 9,.l E),(x 0,.l y)]) (λU U=>R),n 4,n 10,.call 61 [2,4,6] (λU x=>.r (x 0)) (λz x=>[(m,p),(z 4,.d (eO h eG (.s "xml"))),(z 6,.l u),(x 0,.l B)]) (λU U=>R),n 11,.sta 143 [1,2] (λU U=>.next) (λz x=>yc c ky lo td o kp du se pa nd (z 4) tq m (z 6) (z 7) (z 9) (z 10) sp) (λU U=>[(ky,.l gj),(m,p)]) (λU U=>R),.sta 143 [4,5] (λU U=>.next) (λz x=>yc c ky lo td o kp du se pa nd (z 4) tq m (z 6) (z 7) (z 9) (z 10) sp) (λz U=>[(z 4,.d (eO h eG (.s "xml"))),(pa,.l (pv++[lQ g (z 7) b]))]) (λU U=>R),.call 71 [10] (λU x=>.r (x 0)) (λz x=>[(z 10,.l (y++B)),(x 0,.l (l.map .s))]) (λU U=>R),n 5,.val λz=>lQ g (z 7) b,.n 0,n 12,.strs l,.keep [0,1,2,3,4,5,7]] (λU f=>a (S (k 1) (k 0) (k 2))<|λ(m5:Pl)=>a (e (m5 0))<|a (P)<|λ(w:Nat)=>a (h6 (k 1) (k 0) (k 2) w)<|λ(A:Pl)=>a (e (k 1))<|a (h7)<|a (e (A 0))<|a (M (k 1) (k 0) (k 2) w (A 0))<|λ(X:Pl)=>a (e (X 0))<|a (e (A 0))<|a (L)<|a (h9 (k 1) (k 0) (k 2) w (A 0))<|λ(m9:Pl)=>a (G (k 1) (k 0) (k 2) w (A 0))<|λ(m10:Pl)=>a (I (k 1) (k 0) (k 2) w (A 0))<|λ(F:Pl)=>a (aiI hd)<|dH pa<|a (gQ (xs:=pv) (x:=lQ g (k 2) b))<|a (aiH hd K)<|a (e (F 0))<|a (gb l)<|a (N)<|a (aiG hd K C)<|a (aiF hd K C)<|f (pl2 w (F 0)))
end
section
variable {A:List Str}
def tM(h:¬ needs c (x.1++D0) u):pB c D0 x u=x:=if_neg h
def XK{x:List Str×List Str}:pB c D0 (pB c D0 x u) u=pB c D0 x u:=by
 by_cases hd:needs c (x.1++D0) u
 refine tM λq=>q.1 ?_;unfold pB;rw[if_pos hd];exact cH _ (aG _ (.head _))
 rw[tM hd,tM hd]
def Ur:∀{x:List Str×List Str},(∀m∈ms,m.uri=u)->gK c D0 ms x=if ms.isEmpty=true then x else pB c D0 x u:=by
 induction ms with
 |nil=>exact λU=>rfl
 |cons m ms ih=>
  intro x h;show gK c D0 ms (pB c D0 x m.uri)=pB c D0 x u;rw[ih λy a=>h y (.tail _ a),h m (.head _)];by_cases e:ms.isEmpty=true
  ·rw[if_pos e]
  ·rw[if_neg e,XK]
def gU(u:Str):List N5:=iz.filter λm=>m.uri==u
def uO:List Str:=["","e",eG,"u","v"]
def Tf:iz=uO.flatMap gU:=by rfl
theorem Om{us:List Str}:∀{x:List Str×List Str},gK c D0 ((us.flatMap gU).filter p) x=(us.filter λu=>!((gU u).filter p).isEmpty).foldl (pB c D0) x:=by
 induction us with
 |nil=>exact rfl
 |cons u us ih=>
  intro x;rw[cX,List.filter_append];have e:∀{l1 l2:List N5} {x},gK c D0 _ x=gK c D0 l2 (gK c D0 l1 x):=λ{l1 l2 x}=>cU
  have a:=Ur (c:=c) (D0:=D0) (ms:=(gU u).filter p) (x:=x) λm b=>by
   exact beq_iff_eq.mp ((bF (bF b).1).2)
  rw[e,ih,a,cT];cases((gU u).filter p).isEmpty <;> rfl
def Ug{l:List Str}{q:Str->Bool}(a:∀u∈l,q u=false->∀N:List Str,¬ needs c (N++D0) u):∀{x:List Str×List Str},l.foldl (pB c D0) x=(l.filter q).foldl (pB c D0) x:=by
 induction l with
 |nil=>exact rfl
 |cons u l ih=>
  intro x;have ih:=@ih λy b=>a y (.tail _ b);rw[List.foldl_cons,cT];cases h:q u with
  |true=>exact ih
  |false=>rw[tM (a u (.head _) h x.1)];exact ih
theorem Ue{l:List Str}:∀{N A:List Str},l.Nodup->(∀u∈l,u∉N)->(∀u∈l,¬ (u=""/\c.rw=false))->l.foldl (pB c D0) (N,A)=(N++l.filter (λu=>!D0.contains u),bif c.rw then A++(l.filter (λu=>!D0.contains u)).filter (λu=>!A.contains u)else A):=by
 induction l with
 |nil=>
  intro N A _ _ _;show(N,A)=(N++[],bif c.rw then A++[]else A);rw[aX,aX];cases c.rw <;> rfl
 |cons u l ih=>
  intro N A j f d;obtain⟨g,i⟩:=List.nodup_cons.mp j;rw[List.foldl_cons,cT];cases hD:D0.contains u with
  |true=>
   rw[(tM λq=>q.1 (aG _ (bD hD)))];exact ih i (λy a=>f y (.tail _ a)) λy a=>d y (.tail _ a)
  |false=>
   have:pB c D0 (N,A) u=(N++[u],bif c.rw then jC A u else A):=if_pos ⟨λq=>(aD q).elim (f u (.head _)) λq=>by rw[bC q]at hD;exact iC hD.symm,d u (.head _)⟩;rw[this,ih i (λy a q=>(aD q).elim (f y (.tail _ a)) λq=>g (by rw[<- au q];exact a)) λy a=>d y (.tail _ a)];rw[aQ];refine congrArg _ ?_;cases c.rw with
   |false=>rfl
   |true=>
    show jC A u++(l.filter _).filter (λy=>!(jC A u).contains y)=A++(u::l.filter _).filter _;rw[cT];unfold jC;by_cases b:u∈A
    rw[if_pos b,bC b];rfl
    rw[if_neg b,show A.contains u=false from by simpa using b];rw[aQ];refine congrArg (λz=>A++(u::z)) (List.filter_congr λy a=>?_);have a:=(bF a).1;rw[Bool.eq_iff_iff,cO,cO,<- Bool.not_eq_true,<- Bool.not_eq_true,cI,cI,List.mem_append,List.mem_singleton];exact⟨λh q=>h (.inl q),λh q=>q.elim h (λe=>g (e▸a))⟩
end
section
variable {A:List Str} {at':List (N5×Str)}
def Gx:∀{m m':N5},m∈iz->m'∈iz->m.q=m'.q->m=m':=by
 have b:(iz.map _).Nodup:=Dr;generalize iz=l at b
 induction l with
 |nil=>exact λm m' h=>nomatch h
 |cons a l ih=>
  intro m m' h h' e;rw[cC,cB]at b;rcases aA h with rfl|h1
  ·rcases aA h' with rfl|c
   ·rfl
   ·exact absurd (e▸aJ c) b.1
  ·rcases aA h' with rfl|c
   ·exact absurd (e▸aJ h1) b.1
   ·exact ih b.2 h1 c e
theorem Xi(i:nm∈iz)(k:fO at')(u:Str):(!((gU u).filter λm=>(nm.q::(fY c at').map (·.1.q)).contains m.q).isEmpty)=(nm.uri::(fY c at').map (·.1.uri)).contains u:=by
 rw[Bool.eq_iff_iff,cI];have j:=k.fY c;constructor
 intro h;cases hl:(gU u).filter λm=>(nm.q::(fY c at').map _).contains m.q with
 |nil=>rw[hl]at h;exact iC h
 |cons m l=>
  have a:m∈(gU u).filter λm=>(nm.q::(fY c at').map (·.1.q)).contains m.q:=by rw[hl];exact .head _
  obtain⟨h1,b⟩:=bF a;obtain⟨d,n⟩:=bF h1;have g:=beq_iff_eq.mp n;rcases aA (bD b)with e|b
  rw[<- g,Gx d i e];exact .head _
  obtain⟨p,hp,e⟩:=aF b;rw[<- g,<- Gx (j.mem p hp) d e];exact .tail _ (aJ (f:=λp:N5×Str=>p.1.uri) hp)
 intro h;have key:∀m∈iz,m.uri=u->m.q∈nm.q::(fY c at').map (·.1.q)->(!((gU u).filter λm=>(nm.q::(fY c at').map _).contains m.q).isEmpty)=true:=λm h1 b d=>by
  have:m∈(gU u).filter λm=>(nm.q::(fY c at').map _).contains m.q:=List.mem_filter.mpr ⟨List.mem_filter.mpr ⟨h1,beq_iff_eq.mpr b⟩,bC d⟩;cases hl:(gU u).filter λm=>(nm.q::(fY c at').map _).contains m.q with
  |nil=>rw[hl]at this;exact nomatch this
  |cons=>rfl
 rcases aA h with e|h
 exact key nm i e.symm (.head _)
 obtain⟨p,hp,e⟩:=aF h;exact key p.1 (j.mem p hp) e (.tail _ (aJ (f:=λp:N5×Str=>p.1.q) hp))
def jw(h:u∈lg c nm at'):u∈uU/\u∈nm.uri::(fY c at').map (·.1.uri)/\¬ (u=""/\c.rw=false):=by
 obtain⟨h1,b⟩:=bF h;obtain⟨d,a⟩:=aZ b;refine⟨h1,bD d,λq=>?_⟩;rw[q.1,q.2]at a;exact iC a
def JG:(lg c nm at').Nodup:=(show(["","e","u","v"]:List Str).Nodup by decide).filter _
theorem Xx(k:nm∈iz)(d:fO at')(l:eG∈D0):gK c D0 (Gh c nm at') ([],A)=((lg c nm at').filter (λu=>!D0.contains u),bif c.rw then A++((lg c nm at').filter (λu=>!D0.contains u)).filter (λu=>!A.contains u)else A):=by
 have a:Gh c nm at'=(uO.flatMap gU).filter λm=>(nm.q::(fY c at').map (·.1.q)).contains m.q:=by
  rw[<- Tf];rfl
 rw[a,Om];have j:(uO.filter λu=>!((gU u).filter λm=>(nm.q::(fY c at').map (·.1.q)).contains m.q).isEmpty)=uO.filter λu=>(nm.uri::(fY c at').map (·.1.uri)).contains u:=List.filter_congr λu U=>Xi k d u;rw[j];rewrite [Ug (q:=λu=>!(u==eG)&&(!(u==("":Str))||c.rw)) λu U f N=>?_]
 ·have e:(uO.filter λu=>(nm.uri::(fY c at').map (·.1.uri)).contains u).filter (λu=>!(u==eG)&&(!(u==("":Str))||c.rw))=lg c nm at':=by
   have g:(["","e","u","v"]:List Str)=uO.filter λu=>!(u==eG):=by decide+kernel
   unfold lg;rw[g,List.filter_filter,List.filter_filter];refine List.filter_congr λu U=>?_;cases(u==eG) <;> cases(u==("":Str)) <;> cases c.rw <;> cases(nm.uri::(fY c at').map (·.1.uri)).contains u <;> rfl
  rw[e,Ue JG (λU U=>cR) λu i=>(jw i).2.2];rfl
 ·rcases Bool.and_eq_false_iff.mp f with h|h
  ·have:u=eG:=by simpa using h
   exact λq=>q.1 (aG _ (this▸l))
  ·obtain⟨h1,b⟩:=Bool.or_eq_false_iff.mp h;have:u="":=by simpa using h1
   exact λq=>q.2 ⟨this,b⟩
theorem abX(f:nm∈iz)(b:fO at')(g:eG∈D0)(hd:c.rw=true->∀u∈D0,u∈A\/u=eG):gK c D0 (Gh c nm at') ([],A)=((lg c nm at').filter (λu=>!D0.contains u),bif c.rw then A++(lg c nm at').filter (λu=>!A.contains u)else A):=by
 rw[Xx f b g];refine congrArg _ ?_;cases hc:c.rw with
 |false=>rfl
 |true=>
  rw[List.filter_filter];refine congrArg _ (List.filter_congr λu d=>?_);cases hA:A.contains u with
  |true=>rfl
  |false=>
   have:D0.contains u=false:=by
    cases hD:D0.contains u with
    |false=>rfl
    |true=>
     rcases hd hc u (bD hD)with h|h
     rw[bC h]at hA;exact iC hA.symm
     exact absurd h (λe=>(by decide+kernel:eG∉uU) (e▸(jw d).1))
   rw[this];rfl
end
section
variable {A:List Str}
theorem FJ{f g:Str->Str}{r:Str->Nat}(j:N.Nodup)(i:N.length<=5)(h:∀a∈N,∀b∈N,a≠b->r a≠r b/\f a≠f b/\g a≠g b/\Im (f a) (f b)=decide (r a<r b)/\Im (g a) (g b)=decide (r a<r b)):qK cJ (λa b=>ltPair (.t [.s (f a),.s a]) (.t [.s (f b),.s b])) N=qK cJ (λa b=>ltPair (.t [.s (g a),.s a]) (.t [.s (g b),.s b])) N:=by
 obtain⟨p1,s1⟩:=mW (lt:=λa b=>ltPair (V.t [.s _,.s a]) (.t [.s _,.s b])) j i λa e b hb c=>by
  obtain⟨k1,k2,_,l,_⟩:=h a e b hb c;exact⟨k1,(if_neg k2).trans l⟩
 obtain⟨p2,s2⟩:=mW (lt:=λa b=>ltPair (V.t [.s _,.s a]) (.t [.s _,.s b])) j i λa e b hb c=>by
  obtain⟨k1,_,k3,_,k⟩:=h a e b hb c;exact⟨k1,(if_neg k3).trans k⟩
 exact List.Perm.eq_of_pairwise () s1 s2 (p1.trans p2.symm)
noncomputable def Js(p:Str):Str:=if p.length=0 then"xmlns" else"xmlns:"++p
def Y8:∀i:Nat,i<10->∀j:Nat,j<10->i≠j->Js (nI i)≠Js (nI j)/\nI i≠nI j/\Im (Js (nI i)) (Js (nI j))=decide (i<j)/\Im (nI i) (nI j)=decide (i<j):=by decide+kernel
noncomputable def rN(u:Str):Nat:=((["e","v","u"]:List Str)).idxOf u
theorem RQ:∀ba:Bool,∀a∈(["e","u","v"]:List Str),∀b∈(["e","u","v"]:List Str),a≠b->rN a≠rN b/\Js (pK ⟨false,false,false,false,ba⟩ a)≠Js (pK ⟨false,false,false,false,ba⟩ b)/\pK ⟨false,false,false,false,ba⟩ a≠pK ⟨false,false,false,false,ba⟩ b/\Im (Js (pK ⟨false,false,false,false,ba⟩ a)) (Js (pK ⟨false,false,false,false,ba⟩ b))=decide (rN a<rN b)/\Im (pK ⟨false,false,false,false,ba⟩ a) (pK ⟨false,false,false,false,ba⟩ b)=decide (rN a<rN b):=by decide+kernel
theorem XM(i:N.Nodup)(k:N.length<=5)(j:ju A)(l:∀u∈N,u∈uU/\¬ (u=""/\c.rw=false))(n:c.rw=true->∀u∈N,u∈A):FP c A N=qK cJ (λa b=>ltPair (.t [.s (pfx c A a),.s a]) (.t [.s (pfx c A b),.s b])) N:=by
 show qK cJ (λa b=>ltPair (.t [.s (Js _),.s a]) _) N=_;have m:∀u∈N,u≠eG:=λu h e=>(by decide+kernel:eG∉uU) (e▸(l u h).1);cases hc:c.rw with
 |true=>
  refine FJ (r:=A.idxOf) i k λa g b hb d=>?_;have ea:pfx c A a=nI (A.idxOf a):=by rw[pfx,hc];exact if_neg (m a g)
  have v:pfx c A b=nI (A.idxOf b):=by rw[pfx,hc];exact if_neg (m b hb)
  have f:A.idxOf a≠A.idxOf b:=λe=>d (by
   have h1:=sJ (n hc a g);rw[e,sJ (n hc b hb)]at h1;exact(bh h1).symm)
  obtain⟨k1,k2,k3,p⟩:=Y8 _ (lY j a) _ (lY j b) f;rw[ea,v];exact⟨f,k1,k2,k3,p⟩
 |false=>
  have o:∀u∈N,u∈(["e","u","v"]:List Str):=λu h=>by
   obtain⟨w,q⟩:=l u h;rcases aA w with e|e
   lia
   exact e
  refine FJ (r:=rN) i k λa g b hb d=>?_;have e:∀u,pfx c A u=pK ⟨false,false,false,false,c.ba⟩ u:=λu=>by rw[pfx,hc];rfl
  rw[e,e];exact RQ c.ba a (o a g) b (o b hb) d
def S8(p:Str):Wo p=Js p:=by
 unfold Wo Js;by_cases h:p.length=0
 rw[if_pos h,if_pos h];exact dz _
 rw[if_neg h,if_neg h,<- dj];exact congrArg _ rfl
def acr(p:Str×Str):rS p=atS p:=by
 unfold rS atS;rw[dh]
def Vw{m:N5}(d:m∈iz)(hp:m.br=true->pr m.uri=pfx c A m.uri):Qs pr m=vo c A m:=by
 have hk:=jK d;unfold Qs vo;cases hb:m.br with
 |true=>
  have a:=hk.ne hb;rw[if_neg λq=>a (jQ q),gY,if_neg λq=>a q.1,hp hb];rfl
 |false=>
  obtain⟨h1,b⟩:=hk.f.nb hb;rw[if_pos (by rw[h1];exact rfl)];exact b.symm
end
def V9{α:Type}{l:List α}{is:List Nat}(h:is.Perm (List.range l.length)):(is.filterMap λi=>l[i]?).Perm l:=by
 refine(h.filterMap _).trans ?_;have:(List.range l.length).filterMap (λi=>l[i]?)=l:=by
  clear h
  induction l with
  |nil=>rfl
  |cons a l ih=>
   rw[aO,List.range_succ_eq_map,cL];simp only[List.getElem?_cons_zero,List.filterMap_map];exact congrArg _ ih
 rw[this]
def pk{l l2 T7:LH}(is:List Nat)(h1:is.isPerm (List.range l.length)=true)(a:(is.filterMap λi=>l[i]?)=l2):(l2++T7).Perm (l++T7):=List.Perm.append_right T7 (a▸V9 (List.isPerm_iff.mp h1))
def PI(p:List PR):Prop:=List.rec True (λr rs ih=>(∀u∈uU,u∈dU (r::rs)↔u∈(r::rs).flatMap (·.us))/\ih) p
structure S2 (c:Cf) (ps:PS) (rs:List (PR×Nat)) (ns:List Str) (kvs:List (Str×V)):Prop where
 path:rs.map (·.1)=ps.path.reverse
 num:ju ps.A
 nsA:c.rw=true->ns=ps.A
 nd:ns.Nodup
 nu:∀u∈ns,u∈uU
 kv:c.rw=false->kvs=pT c\/kvs=eO (pT c) eG (.s "xml")
 kl:kvs.length<=10
 pi:PI ps.path
 dom:c.rw=true->∀u∈dU ps.path,u∈ps.A\/u=eG
 fl:∀r∈ps.path,r.f.length<10000
 ul:∀r∈ps.path,r.us.length<=4
def PI.top{p:List PR}(h:PI p):∀u∈uU,u∈dU p↔u∈p.flatMap (·.us):=by
 cases p with
 |nil=>lia
 |cons r rs=>exact h.1
def Fo{p:List PR}(h:rs.map (·.1)=p.reverse)(u:Str):u∈yX rs↔u∈p.flatMap (·.us):=by
 unfold yX;have e:(rs.flatMap λp=>p.1.us)=(rs.map (·.1)).flatMap (·.us):=by rw[List.flatMap_map]
 rw[e,h,List.mem_flatMap,List.mem_flatMap];exact⟨λ⟨r,a,b⟩=>⟨r,List.mem_reverse.mp a,b⟩,λ⟨r,a,b⟩=>⟨r,List.mem_reverse.mpr a,b⟩⟩
section
section
variable {pe:Pe} {n:Nat} {J:Loc} {Q:Fl->Loc->LH->Prop}
end
variable {R:LH}
def YQ(ns:List Str)(u:Str):nuS ns u=nI (ns.idxOf u):=by
 unfold nuS nI;rw[dh]
def Rv(ns:List Str):V8 ns=nP ns:=cP λu U=>by rw[YQ]
theorem agF{o kp:Nat}{ns:List Str}(b:ns.length<=5)(hd:ns.Nodup):XX (dK Y) 143 (dZ Y 195) (z6 c ky lo td o kp du se pa nd pf tq m sh us) (Internal.fs (iw Y)[4]?) ([(nd,.l (ns.map .s)),(pf,.d kvs)]++R) (λU=>.next) (λx=>z6 c ky lo td o kp du se pa nd (x 0) tq m sh us) (λx=>[(nd,.l (ns.map .s)),(x 0,.d (bif c.rw then nP ns else kvs))]++R):=by
 by_cases hc:c.rw=true
 rw[hc,<- Rv];exact ab5 hc b hd
 have hc:c.rw=false:=by simpa using hc
 rw[hc];intro _ P H a;obtain⟨x,H',e,t⟩:=ab6 (R:=[(nd,.l (ns.map .s)),(pf,.d kvs)]++R) hc P H a;exact⟨λU=>pf,H',e,t⟩
end
section
variable {ps:PS} {rs:List (PR×Nat)} {ns:List Str} {at':List (N5×Str)}
def xR(c:Cf)(ns:List Str)(nm:N5)(at':List (N5×Str)):List Str:=ns++(lg c nm at').filter λu=>!ns.contains u
def Gv(c:Cf)(ns:List Str)(kvs:List (Str×V))(nm:N5)(at':List (N5×Str)):List (Str×V):=bif c.rw then nP (xR c ns nm at')else kvs
def za(c:Cf)(A:List Str)(u:Str):Str:=if u=""/\c.rw=false then"" else pfx c A u
theorem S2.Xw(h:S2 c ps rs ns kvs)(f:nm∈iz)(d:fO at'):sx c ps nm at'=((lg c nm at').filter (λu=>!(yX rs).contains u),bif c.rw then xR c ns nm at' else ps.A):=by
 unfold sx;rw[abX (D0:=dU ps.path) f d (aG _ (.head _)) h.dom];have a:(lg c nm at').filter (λu=>!(dU ps.path).contains u)=(lg c nm at').filter (λu=>!(yX rs).contains u):=List.filter_congr λu e=>by
  have b:=Fo h.path u;rw[Bool.eq_iff_iff,cO,cO,<- Bool.not_eq_true,<- Bool.not_eq_true,cI,cI,(h.pi.top u (jw e).1),b]
 rw[a];cases hc:c.rw with
 |false=>rfl
 |true=>
  unfold xR;rw[h.nsA hc]
theorem S2.nsn(h:S2 c ps rs ns kvs):(xR c ns nm at').Nodup/\(∀u∈xR c ns nm at',u∈uU)/\(xR c ns nm at').length<=5:=by
 have h1:(xR c ns nm at').Nodup:=by
  unfold xR;rw[List.nodup_append];refine⟨h.nd,JG.filter _,λa g b hb e=>?_⟩;have:=(bF hb).2;rw[<- e,bC g]at this;exact iC this
 have f:∀u∈xR c ns nm at',u∈uU:=λu d=>by
  rcases aD d with d|d
  exact h.nu u d
  exact(jw (bF d).1).1
 exact⟨h1,f,aK (List.Nodup.length_le_of_subset h1 f) ()⟩
def Ce(a:u∈lg c nm at'):u∈xR c ns nm at':=by
 by_cases h:u∈ns
 exact cH _ h
 exact aG _ (List.mem_filter.mpr ⟨a,by simpa using h⟩)
def agu(a:u∈lg c nm at')(hc:c.rw=false):u∈(["e","u","v"]:List Str):=by
 obtain⟨h1,_,b⟩:=jw a;rcases aA h1 with e|e
 lia
 exact e
def acW(c:Cf):(pT c).lookup ("e":Str)=some (.s (pK c "e"))/\(pT c).lookup ("u":Str)=some (.s (pK c "u"))/\(pT c).lookup ("v":Str)=some (.s (pK c "v"))/\(pT c).lookup ("":Str)=none:=by
 exact⟨by kernel_rfl,by kernel_rfl,by kernel_rfl,by kernel_rfl⟩
theorem S2.kve(h:S2 c ps rs ns kvs)(hc:c.rw=false):(∀u∈(["e","u","v"]:List Str),kvs.lookup u=some (.s (pK c u)))/\kvs.lookup ("":Str)=none:=by
 obtain⟨p1,p2,p3,p4⟩:=acW c;have key:∀u,u≠eG->kvs.lookup u=(pT c).lookup u:=λu a=>by
  rcases h.kv hc with e|e
  rw[e]
  rw[e];exact eU.trans (if_neg a)
 refine⟨λu a=>?_,(key _ (by decide+kernel)).trans p4⟩;rw[key u λe=>(by decide+kernel:eG∉(["e","u","v"]:List Str)) (e▸a)];simp at a;rcases a with e|e|e
 lia
 lia
 lia
theorem S2.lk(h:S2 c ps rs ns kvs)(f:nm∈iz)(b:fO at'):∀u∈lg c nm at',(Gv c ns kvs nm at').lookup u=some (.s (pfx c (sx c ps nm at').2 u)):=λu a=>by
 rw[h.Xw f b];unfold Gv;cases hc:c.rw with
 |true=>
  show(nP _).lookup u=some (.s (pfx c (xR c ns nm at') u));have d:u≠eG:=λe=>(by decide+kernel:eG∉uU) (e▸(jw a).1);rw[show pfx c _ u=nI _ by rw[pfx,hc];exact if_neg d];exact Mp (Ce a)
 |false=>
  show kvs.lookup u=some _;rw[(h.kve hc).1 u (agu a hc),pfx,hc];rfl
def abC(h:u∈U5)(a:u≠eG):u∈uU:=by
 have h:u∈(["","e","u","v",eG]:List Str):=h;simp at h;rcases h with e|e|e|e|e
 rw[e];exact .head _
 rw[e];exact .tail _ (.head _)
 rw[e];exact .tail _ (.tail _ (.head _))
 rw[e];exact .tail _ (.tail _ (.tail _ (.head _)))
 lia
def abv{m:N5}(hk:m∈iz)(b:m.uri≠eG)(a:¬ (m.uri=""/\c.rw=false))(h:m.uri∈nm.uri::(fY c at').map (·.1.uri)):m.uri∈lg c nm at':=by
 refine List.mem_filter.mpr ⟨abC (jK hk).u b,Bool.and_eq_true_iff.mpr ⟨bC h,?_⟩⟩;cases hc:c.rw with
 |true=>lia
 |false=>lia
def Dq(c:Cf)(ns:List Str)(kvs:List (Str×V))(nm:N5)(at':List (N5×Str)):List (Str×V):=eO (Gv c ns kvs nm at') eG (.s "xml")
theorem S2.lkX(h:S2 c ps rs ns kvs)(f:nm∈iz)(d:fO at'){m:N5}(hk:m∈iz)(e:m.uri∈nm.uri::(fY c at').map (·.1.uri)):((Dq c ns kvs nm at').lookup m.uri).getD (.s "")=.s (za c (sx c ps nm at').2 m.uri):=by
 unfold Dq za;rw[show(eO _ eG _).lookup m.uri=if m.uri=eG then some _ else(Gv c ns kvs nm at').lookup m.uri from eU];by_cases b:m.uri=eG
 rw[if_pos b,b,Ge];rfl
 rw[if_neg b];by_cases a:m.uri=""/\c.rw=false
 rw[if_pos a,a.1];unfold Gv;rw[a.2];show(kvs.lookup _).getD _=_;rw[(h.kve a.2).2];rfl
 rw[if_neg a,h.lk f d _ (abv hk b a e)];rfl
end
section
variable {ps:PS} {rs:List (PR×Nat)} {ns:List Str} {at':List (N5×Str)}
def tD(c:Cf)(ps:PS)(nm:N5)(at':List (N5×Str)):PR:=⟨nm,gY c (sx c ps nm at').2 nm.uri nm.tag,(sx c ps nm at').1,lg c nm at',V4 (iD ps.path) ((dO (fY c at')).lookup mD)⟩
def S2.RX(h:S2 c ps rs ns kvs)(f:nm∈iz)(d:fO at'):ju (sx c ps nm at').2:=by
 rw[h.Xw f d];cases hc:c.rw with
 |false=>exact h.num
 |true=>
  obtain⟨h1,b,_⟩:=h.nsn;exact⟨h1,λu a=>⟨(by decide+kernel:∀u∈uU,u∈U5) u (b u a),λe=>(by decide+kernel:eG∉uU) (e▸b u a)⟩⟩
def K8(c:Cf):eO (eO (pT c) eG (.s "xml")) eG (.s "xml")=eO (pT c) eG (.s "xml"):=by rfl
theorem S2.start(h:S2 c ps rs ns kvs)(b:nm∈iz)(d:fO at')(u:Nat):S2 c (ps.start c nm at') (rs++[(tD c ps nm at',u)]) (xR c ns nm at') (Dq c ns kvs nm at'):=by
 have g:=h.Xw b d;obtain⟨l,m,k⟩:=h.nsn (nm:=nm) (at':=at');have j:∀v,v∈(sx c ps nm at').1↔v∈lg c nm at'/\v∉yX rs:=λv=>by
  rw[g,List.mem_filter,cO,<- Bool.not_eq_true,cI]
 have a:∀v,v∈dU (ps.start c nm at').path↔v∈(sx c ps nm at').1\/v∈dU ps.path:=λv=>by
  show v∈((sx c ps nm at').1++ps.path.flatMap (·.N))++[eG]↔_;rw[aQ,List.mem_append];rfl
 refine⟨?_,h.RX b d,λhc=>?_,l,m,λhc=>?_,?_,⟨λv f=>?_,h.pi⟩,λhc v f=>?_,λr i=>?_,λr i=>?_⟩
 rw[aH,h.path];show _=(tD c ps nm at'::ps.path).reverse;rw[cV];rfl
 show xR c ns nm at'=(sx c ps nm at').2;rw[g,hc];rfl
 unfold Dq Gv;rw[hc];rcases h.kv hc with e|e
 rw[e];exact .inr rfl
 rw[e];exact .inr (K8 c)
 unfold Dq Gv;cases hc:c.rw with
 |true=>
  have:=(jF (nP (xR c ns nm at')) eG (.s "xml")).2.1;refine aK this ?_;unfold nP;rw[aB];exact aK (cu k) ()
 |false=>
  rcases h.kv hc with e|e
  rw[e];exact aK (jF (pT c) eG (.s "xml")).2.1 (show 3+1<=10 by decide)
  rw[e];show(eO (eO (pT c) eG (.s "xml")) eG (.s "xml")).length<=10;rw[K8];exact aK (jF (pT c) eG (.s "xml")).2.1 (show 3+1<=10 by decide)
 have:=a v;have hp:=h.pi.top v f;have hf:=Fo h.path v;show v∈dU (ps.start c nm at').path↔v∈lg c nm at'++ps.path.flatMap (·.us);rw[this,j,hp,hf,List.mem_append];by_cases q:v∈ps.path.flatMap (·.us)
 exact⟨λU=>.inr q,λU=>.inr q⟩
 exact⟨λz=>z.elim (λz=>.inl z.1) λz=>absurd z q,λz=>z.elim (λz=>.inl ⟨z,q⟩) λz=>absurd z q⟩
 show v∈(sx c ps nm at').2\/v=eG;rw[g,hc];rcases(a v).mp f with q|q
 exact .inl (Ce ((j v).mp q).1)
 rcases h.dom hc v q with q|q
 exact .inl (cH _ (by rw[h.nsA hc];exact q))
 exact .inr q
 rcases aA (show r∈tD c ps nm at'::ps.path from i)with e|e
 rw[e];exact cA (pU (h.RX b d) b) ()
 exact h.fl r e
 rcases aA (show r∈tD c ps nm at'::ps.path from i)with e|e
 rw[e];exact dF _ _
 exact h.ul r e
end
section
variable {A:List Str} {ps:PS} {rs:List (PR×Nat)} {ns:List Str} {at':List (N5×Str)}
def Cp(c:Cf)(at':List (N5×Str)):Str:=bif c.bl then cJ else((dO at').lookup mD).getD cJ
def Wb(h:ju A)(a:u∈U5):(pfx c A u).length<=5:=by
 unfold pfx;cases c.rw with
 |false=>exact(by decide+kernel:∀b:Bool,∀u∈U5,(pK ⟨false,false,false,false,b⟩ u).length<=5) c.ba u a
 |true=>
  show(Wc A u).length<=5;unfold Wc;by_cases e:u=eG
  rw[if_pos e];decide
  rw[if_neg e];exact(by decide+kernel:∀k<10,(nI k).length<=5) _ (lY h u)
def ac8(hp:p.length<=5)(a:t.length<=5):(lF p t).length<=40:=by
 unfold lF;by_cases h0:p.length=0
 ·rw[if_pos h0];exact aK a ()
 ·rw[if_neg h0,fJ,fJ,fJ];exact aK (dg (dg (dg (show Str.empty.length<=0 from fM rfl) hp) (show(":":Str).length<=1 from fM rfl)) a) ()
def MJ:∀m∈iz,m.tag.length<=5:=by decide+kernel
def xV(u t:Str):lF (za c A u) t=gY c A u t:=by
 unfold za gY;by_cases a:u=""/\c.rw=false
 ·rw[if_pos a,if_pos a];exact if_pos ()
 ·rw[if_neg a,if_neg a]
def DR(h:ju A){m:N5}(a:m∈iz):(gY c A m.uri m.tag).length<=40:=by
 unfold gY;by_cases b:m.uri=""/\c.rw=false
 rw[if_pos b];exact aK (MJ m a) ()
 rw[if_neg b];exact ac8 (Wb h (jK a).u) (MJ m a)
theorem KQ(d:ju x.2)(e:∀u∈x.1,u∈U5)(g:x.1.length<=5)(hl:fO l)(f:∀p∈l,p.2.length<20):∀p∈gR c x l,p.1.length<=40/\p.2.length<=40:=λp hp=>by
 rcases aD hp with hp|hp
 obtain⟨u,a,rfl⟩:=aF hp;have a:=e u (j9 g u a);refine⟨?_,(by decide+kernel:∀u∈U5,u.length<=40) u a⟩;show(Ai c x.2 u).length<=40;unfold Ai;by_cases h0:(pfx c x.2 u).length=0
 rw[if_pos h0];decide
 rw[if_neg h0,fJ];exact aK (dg (show("xmlns:":Str).length<=6 from fM rfl) (Wb d a)) ()
 obtain⟨p,b,rfl⟩:=aF hp;have hp:=j9 (aK hl.len ()) p b;refine⟨?_,cj (cA (f p hp) ())⟩;unfold vo;by_cases h0:p.1.uri.length=0
 rw[if_pos h0];exact aK (MJ _ (hl.mem p hp)) ()
 rw[if_neg h0];exact DR d (hl.mem p hp)
def aan{x:Str}(h:x.length<=40):(mK x).length<=240:=aK (qp rfl rfl) (Nat.mul_le_mul_left 6 h)
def agO(h:p.1.length<=40/\p.2.length<=40):(rS p).length<=300:=by
 unfold rS;rw[fJ,fJ,fJ,fJ];exact aK (dg (dg (dg (dg (show(" ":Str).length<=1 from fM rfl) h.1) (show("=\"":Str).length<=2 from fM rfl)) (aan h.2)) (show("\"":Str).length<=1 from fM rfl)) ()
def Pq{l:List (Str×Str)}(h:∀p∈l,p.1.length<=40/\p.2.length<=40)(a:l.length<=10):(cat (l.map rS)).length<=3000:=by
 have k:=En (B:=300) (l:=l.map rS) λx b=>by
  obtain⟨p,hp,rfl⟩:=aF b;exact agO (h p hp)
 rw[aB]at k;exact aK k (Nat.mul_le_mul_right 300 a)
def Fv(f:Str)(l:List (Str×Str)):w7 f l="<"++f++cat (l.map rS)++">":=by
 unfold w7;rw[cP λp U=>(acr p).symm]
def Xu{f:Str}{l:List (Str×Str)}(hf:f.length<=40)(h:(cat (l.map rS)).length<=3000):(w7 f l).length<=20000:=by
 rw[Fv,fJ,fJ,fJ];exact aK (dg (dg (dg q1 hf) h) q2) ()
theorem Zo(k:Str)(l:List (N5×Str)):(dO (fY c l)).lookup k=if c.lost.contains k=true then none else(dO l).lookup k:=by
 induction l with
 |nil=>show none=if _ then none else none;rw[ite_self]
 |cons p l ih=>
  have e:dO (p::l)=(p.1.q,p.2)::dO l:=rfl;rw[e,bx];cases hp:c.lost.contains p.1.q with
  |true=>
   have a:fY c (p::l)=fY c l:=by unfold fY;rw[cT,hp];rfl
   rw[a,ih];cases hk:k==p.1.q with
   |true=>rw[beq_iff_eq.mp hk,if_pos hp,if_pos hp]
   |false=>rfl
  |false=>
   have a:dO (fY c (p::l))=(p.1.q,p.2)::dO (fY c l):=by unfold fY;rw[cT,hp];rfl
   rw[a,bx,ih];cases hk:k==p.1.q with
   |true=>rw[beq_iff_eq.mp hk,hp];rfl
   |false=>rfl
def H2(c:Cf)(ky lo nd pf pa:Nat)(ns:List Str)(kvs:List (Str×V))(rs:List (PR×Nat))(X:LH):LH:=[(pa,.l (mC rs))]++([(lo,.l (c.fj.map .s)),(ky,.l gj),(nd,.l (ns.map .s)),(pf,.d kvs)]++(oA rs++X))
def uy{l m:Loc}:∀y v,l.lookup y=some v->(l++m).lookup y=some v:=λy v=>by
 induction l with
 |nil=>exact λh=>gB h
 |cons p l ih=>
  intro h;rw[List.cons_append,bx];rw[bx]at h;cases e:y==p.1 with
  |true=>rw[e]at h;exact h
  |false=>rw[e]at h;exact ih h
def Q8(pb:Bool):(if(Cp c at').length=0 then pb else Cp c at'=="preserve")=V4 pb ((dO (fY c at')).lookup mD):=by
 have h0:∀b:Bool,(Cf.lost ⟨false,false,false,b,false⟩).contains mD=b:=by decide+kernel
 rw[Zo,show c.lost.contains mD=c.bl from h0 c.bl];unfold Cp;cases hc:c.bl with
 |true=>rfl
 |false=>
  cases(dO at').lookup mD with
  |none=>rfl
  |some x=>rfl
end
section
variable {R:LH} {ps:PS} {rs:List (PR×Nat)} {ns:List Str} {at':List (N5×Str)}
def adO{c:Type}{l:List (Str×c)}{k:Str}{v:c}(b:(l.map (·.1)).Nodup)(a:(k,v)∈l):l.lookup k=some v:=by
 induction l with
 |nil=>exact nomatch a
 |cons p l ih=>
  rw[cC,cB]at b;rw[bx];rcases aA a with e|a
  rw[<- e,bA]
  rw[show(k==p.1)=false from bB λe=>b.1 (e▸aJ (f:=Prod.fst) a)];exact ih b.2 a
def QC{rs:List (PR×Nat)}(h:∀p∈rs,p.1.us.length<=4):(yX rs).length<=4*rs.length:=by
 induction rs with
 |nil=>exact bN _
 |cons p rs ih=>
  show(p.1.us++yX rs).length<=_;have:=ih λy a=>h y (.tail _ a);have:=h p (.head _);rw[aC,aO];lia
def abw:(lg c nm at').length<=4:=dF _ _
theorem Xh(a:fO at'):((uU.filter λu=>((nm::(jT (fY c at')).map (·.1)).map (·.uri)).contains u).filter λu:Str=>!(u==("":Str))||c.rw)=lg c nm at':=by
 rw[List.filter_filter];refine List.filter_congr λu U=>?_;have e:((nm::(jT (fY c at')).map (·.1)).map (·.uri)).contains u=(nm.uri::(fY c at').map (·.1.uri)).contains u:=by
  show(nm.uri::((jT _).map _).map _).contains u=_;rw[aR];exact oh (((mX (a.fY c)).1.map _).cons _) u
 rw[e,Bool.and_comm]
theorem agE{o kp:Nat}:XX (dK Y) 143 (dZ Y 195) (ls6 c ky lo td o kp du se pa nd pf tq m sh us qz ro) (Internal.fs (iw Y)[9]?) ([(m,fG (dO at')),(ky,.l gj)]++R) (λU=>.next) (λU=>yc c ky lo td o kp du se pa nd pf tq m sh us qz ro (Cp c at')) (λU=>[(m,fG (dO at')),(ky,.l gj)]++R):=by
 by_cases hc:c.bl=true
 rw[show Cp c at'=cJ by unfold Cp;rw[hc];rfl];exact ab3 hc
 have hc:c.bl=false:=by lia
 refine ab4 (mk:=wH _) hc ?_;rw[Dm];unfold Cp;rw[hc];cases(dO at').lookup mD <;> rfl
theorem ab7{o kp:Nat}(b:rs.map (·.1)=ps.path.reverse)(hl:ps.path.length<900)(i:nm∈iz)(hp:(kx.lookup nm.uri).getD (.s "")=.s g)(h:g.length<1000):XX (dK Y) 143 (dZ Y 195) (yc c ky lo td o kp du se pa nd pf nm.q m sh us qz ro sp) (Internal.fs (iw Y)[10]?) ([(pa,.l (mC rs)),(pf,.d kx)]++R) (λU=>.next) (λU=>yc c ky lo td o kp du se pa nd pf nm.q m sh us qz ro sp) (λU=>[(pa,.l (mC rs++[lQ (lF g nm.tag) us (if sp.length=0 then iD ps.path else sp=="preserve")])),(pf,.d kx)]++R):=by
 have hlen:(mC rs).length<900:=by
  unfold mC;have:=congrArg List.length b;rw[aB,cW]at this;rw[aB,this];exact hl
 by_cases h0:sp.length=0
 rw[if_pos h0];cases hrs:rs with
 |nil=>
  have:ps.path=[]:=by
   rw[hrs]at b;exact List.reverse_eq_nil_iff.mp b.symm
  rw[this];exact XH (Al i) hp h (eqE h0) (ps:=[]) ()
 |cons a l=>
  obtain⟨j,p,r⟩:=lH rs (by rw[hrs];exact dG _ _);rw[<- hrs];clear hrs;subst r;have e:mC (j++[p])=mC j++[lQ p.1.f p.2 p.1.pb]:=aH;have n:iD ps.path=p.1.pb:=by
   have k:=congrArg List.reverse b;rw[List.reverse_reverse,aH,List.reverse_append]at k;rw[<- k];rfl
  rw[e,n];rw[e,aC]at hlen;exact XF (Al i) hp h (eqE h0) (aU (Nat.le_add_right ..) hlen)
 rw[if_neg h0];exact XJ (Al i) hp h (ade h0) hlen
theorem J5{o kp:Nat}(h:S2 c ps rs ns kvs)(z:nm∈iz)(A:fO at')(hv:∀p∈at',p.2.length<20)(hd:ps.due.length<10000000)(hp:ps.path.length<900){Q:Fl->Loc->LH->Prop}(hQ:∀Z us J,(∀y v,(Wn c ky lo td o kp (ps.start c nm at').due true pa nd Z).lookup y=some v->J.lookup y=some v)->Q .next J (H2 c ky lo nd Z pa (xR c ns nm at') (Dq c ns kvs nm at') (rs++[(tD c ps nm at',us)]) ((m,fG (dO at'))::R))):XP (dK Y) 144 (dZ Y 195) (Jr c ky lo td o kp ps.due se pa nd pf nm.q m) (iw Y) ([(lo,.l (c.fj.map .s)),(ky,.l gj),(m,fG (dO at')),(nd,.l (ns.map .s)),(pf,.d kvs),(pa,.l (mC rs))]++(oA rs++R)) Q:=by
 obtain⟨hn1,hn2,F⟩:=h.nsn (nm:=nm) (at':=at');have B:=abw (c:=c) (nm:=nm) (at':=at');have eus:=Xh (c:=c) (nm:=nm) A;have hns:ns.length<=5:=aK (by unfold xR;rw[aC];exact Nat.le_add_right ..) F;have has:=A.fY c;have g:=(mX has).1
 have hms:∀m∈nm::(jT (fY c at')).map (·.1),m∈iz:=λx hx=>by
  rcases aA hx with e|hx
  rw[e];exact z
  obtain⟨p,hp,e⟩:=aF hx;rw[<- e];exact has.mem p (g.mem_iff.mp hp)
 have hml:1+((jT (fY c at')).map (·.1)).length<=lim:=by
  rw[aB,g.length_eq];exact aK (cM has.len 1) ()
 have L:ns.map V.s++((lg c nm at').filter λu=>!ns.contains u).map .s=(xR c ns nm at').map .s:=List.map_append.symm;have hfl:(yX rs).length<=lim:=aK (QC λp hp=>h.ul p.1 (by
  have:=aJ (f:=λp:PR×Nat=>p.1) hp;rw[h.path]at this;exact List.mem_reverse.mp this)) (by
  have:=congrArg List.length h.path;rw[aB,cW]at this;rw[this];exact aK (Nat.mul_le_mul_left 4 (cj hp)) ())
 have C:(sx c ps nm at').1=(lg c nm at').filter λu=>!(yX rs).contains u:=by rw[h.Xw z A]
 have hNn:(sx c ps nm at').1.Nodup:=by rw[C];exact JG.filter _
 have X:(sx c ps nm at').1.length<=4:=by rw[C];exact aK (dF _ _) B
 have j:(sx c ps nm at').1.length<=5:=cZ X;have n:∀u∈(sx c ps nm at').1,u∈lg c nm at':=λu i=>by rw[C]at i;exact(bF i).1
 have a:=h.RX z A
 have S:=XM (c:=c) hNn j a (λu i=>⟨(jw (n u i)).1,(jw (n u i)).2.2⟩) λhc u i=>by
  rw[h.Xw z A,hc];exact Ce (n u i)
 have D:(FP c (sx c ps nm at').2 (sx c ps nm at').1).length<=4:=by rw[show(FP c (sx c ps nm at').2 (sx c ps nm at').1).length=(sx c ps nm at').1.length from nJ j];exact X
 have hpl:∀u∈FP c (sx c ps nm at').2 (sx c ps nm at').1,(pfx c (sx c ps nm at').2 u).length<1000:=λu i=>iT a ((by decide+kernel:∀u∈uU,u∈U5) u (jw (n u (j9 j u i))).1);have M:(Gv c ns kvs nm at').length<lim:=by
  unfold Gv;cases c.rw with
  |true=>show(nP _).length<lim;unfold nP;rw[aB];exact aU F ()
  |false=>exact aU h.kl ()
 have ha4:(jT (fY c at')).length<=4:=by rw[g.length_eq];exact cZ has.len
 have hl8:∀p∈jT (fY c at'),p.1∈iz/\(wH (dO at')).lookup p.1.q=some (.s p.2)/\((Dq c ns kvs nm at').lookup p.1.uri).getD (.s "")=.s (za c (sx c ps nm at').2 p.1.uri)/\(za c (sx c ps nm at').2 p.1.uri).length<1000:=λp hp=>by
  have hq:=g.mem_iff.mp hp;have hk:=has.mem p hq;refine⟨hk,?_,h.lkX z A hk (.tail _ (aJ (f:=λp:N5×Str=>p.1.uri) hq)),?_⟩
  rw[Dm,adO (Mx A) (aJ (f:=λp:N5×Str=>(p.1.q,p.2)) (bF hq).1)];rfl
  unfold za;by_cases I:p.1.uri=""/\c.rw=false
  rw[if_pos I];decide
  rw[if_neg I];exact iT a (jK hk).u
 have hg0:=h.lkX z A z (.head _);have hg1:(za c (sx c ps nm at').2 nm.uri).length<1000:=by
  unfold za;by_cases I:nm.uri=""/\c.rw=false
  rw[if_pos I];decide
  rw[if_neg I];exact iT a (jK z).u
 have G:((FP c (sx c ps nm at').2 (sx c ps nm at').1).map λu=>V.t [.s (Wo (pfx c (sx c ps nm at').2 u)),.s u])++((jT (fY c at')).map λp=>V.t [.s (Qs (za c (sx c ps nm at').2) p.1),.s p.2])=(gR c (sx c ps nm at') (fY c at')).map pv:=by
  unfold gR;rw[aH,aR,aR];refine congr (congrArg _ (cP λu U=>?_)) (cP λp hp=>?_)
  show V.t [.s (Wo _),.s u]=V.t [.s (Js _),.s u];rw[S8]
  show V.t [.s (Qs _ p.1),.s p.2]=V.t [.s (vo c (sx c ps nm at').2 p.1),.s p.2];rw[Vw (has.mem p (g.mem_iff.mp hp)) λhb=>if_neg λq=>(jK (has.mem p (g.mem_iff.mp hp))).ne hb q.1]
 have ah9:(gR c (sx c ps nm at') (fY c at')).map (λp=>V.s (rS p))=((gR c (sx c ps nm at') (fY c at')).map rS).map .s:=by rw[aR];rfl
 have w:(∀p∈gR c (sx c ps nm at') (fY c at'),p.1.length<10000/\p.2.length<100000)/\(gR c (sx c ps nm at') (fY c at')).length<=10:=tY a (λu i=>(by decide+kernel:∀u∈uU,u∈U5) u (jw (n u i)).1) j has
 have hrl:∀p∈gR c (sx c ps nm at') (fY c at'),p.1.length<10000/\p.2.length<=1000:=λp hp=>by
  refine⟨(w.1 p hp).1,?_⟩;rcases aD hp with q|q
  obtain⟨u,i,rfl⟩:=aF q;exact cj ((by decide+kernel:∀u∈uU,u.length<1000) u (jw (n u (j9 j u i))).1)
  obtain⟨p2,h2,rfl⟩:=aF q;exact cj (has.val p2 (g.mem_iff.mp h2))
 have hrs:=KQ (c:=c) a (λu i=>(by decide+kernel:∀u∈uU,u∈U5) u (jw (n u i)).1) j has λp hp=>hv p (bF hp).1;have E:=Pq hrs w.2;have ahU:JoinOk cJ ((gR c (sx c ps nm at') (fY c at')).map rS)=true:=qO (aK E ());have K:(lF (za c (sx c ps nm at').2 nm.uri) nm.tag).length<10000:=by rw[xV];exact aU (DR a z) ()
 have N:(jn ((gR c (sx c ps nm at') (fY c at')).map rS)).length<1000000:=by rw[qP];exact aU E ()
 have v8l:((FP c (sx c ps nm at').2 (sx c ps nm at').1).map λu=>V.t [.s (Wo (pfx c (sx c ps nm at').2 u)),.s u]).length+((jT (fY c at')).map λp=>V.t [.s (Qs (za c (sx c ps nm at').2) p.1),.s p.2]).length<=lim:=by
  rw[aB,aB];exact aK (dg D ha4) ()
 have hs5:jq (((lg c nm at').filter λu=>!(yX rs).contains u).map λu=>V.t [.s (pfx c (sx c ps nm at').2 u),.s u]) ((FP c (sx c ps nm at').2 (sx c ps nm at').1).map λu=>V.t [.s (pfx c (sx c ps nm at').2 u),.s u]):=by
  rw[<- C,S];exact tO (f:=λu=>V.t [.s (pfx c (sx c ps nm at').2 u),.s u]) (λU U=>rfl) j
 have esh:((jT (fY c at')).map λp=>V.s p.1.q)=((jT (fY c at')).map (·.1)).map λm=>V.s m.q:=by rw[aR];rfl
 have k:=XD (Y:=Y) (c:=c) (R:=oA rs++R) (ky:=ky) (lo:=lo) (td:=td) (o:=o) (kp:=kp) (du:=ps.due) (se:=se) (pa:=pa) (nd:=nd) (pf:=pf) (tq:=nm.q) (m:=m) (kvs:=kvs)
  (zXa (afg Y c _ ky lo td o kp ps.due se pa nd pf nm.q m A)
  (λsh=>by
   have:=afc Y c (oA rs++R) ky lo td o kp ps.due se pa nd pf m sh nm hms hml;rw[<- esh]at this;exact this)
  (λsh us=>by
   have:=afb Y c (oA rs++R) ky lo td o kp ps.due se pa nd pf nm.q m sh us (l:=uU.filter λu=>((nm::(jT (fY c at')).map (·.1)).map (·.uri)).contains u) (aK (dF _ _) (show 4<=4 from bT 4));rw[eus]at this;exact this)
  (λsh us=>afa Y c _ ky lo td o kp ps.due se pa nd pf nm.q m sh us ns B)
  ((by
   rw[aB,aB];exact aK (dg hns (aK (dF _ _) B)) ()))
  (λsh us=>by
   have:=agF (Y:=Y) (c:=c) (R:=oA rs++R) (ky:=ky) (lo:=lo) (td:=td) (o:=o) (kp:=kp) (du:=ps.due) (se:=se) (pa:=pa) (nd:=nd) (pf:=pf) (tq:=nm.q) (m:=m) (sh:=sh) (us:=us) (kvs:=kvs) F hn1;rw[<- L]at this;exact this))
  (λb sh us=>(ae7 Y c R ky lo td o kp ps.due se pa nd b nm.q m sh us (rs:=rs) (l:=lg c nm at') (kvs:=Gv c ns kvs nm at') (pr:=pfx c (sx c ps nm at').2) hfl B (h.lk z A)).perm (pk (l:=[(us,dN.l ((lg c nm at').map .s)),(b,dN.d (Gv c ns kvs nm at')),(pa,dN.l (mC rs))]) (l2:=[(b,dN.d (Gv c ns kvs nm at')),(pa,dN.l (mC rs)),(us,dN.l ((lg c nm at').map .s))]) [1,2,0] rfl rfl) λx=>pk (l:=[(x 0,dN.l (((lg c nm at').filter λu=>!(yX rs).contains u).map λu=>V.t [.s (pfx c (sx c ps nm at').2 u),.s u])),(us,dN.l ((lg c nm at').map .s)),(b,dN.d (Gv c ns kvs nm at')),(pa,dN.l (mC rs))]) (l2:=[(b,dN.d (Gv c ns kvs nm at')),(pa,dN.l (mC rs)),(us,dN.l ((lg c nm at').map .s)),(x 0,dN.l (((lg c nm at').filter λu=>!(yX rs).contains u).map λu=>V.t [.s (pfx c (sx c ps nm at').2 u),.s u]))]) [2,3,1,0] rfl rfl)
  hs5
  (λb sh us nw=>ae6 Y c _ ky lo td o kp ps.due se pa nd b nm.q m sh us nw D hpl)
  M
  (λb sh us nw ro=>(ae5 Y c (oA rs++R) ky lo td o kp ps.due se pa nd b nm.q m sh us nw ro ha4 hl8).perm (pk (l:=[(sh,dN.l ((jT (fY c at')).map λp=>V.s p.1.q)),(b,dN.d (Dq c ns kvs nm at')),(m,fG (dO at'))]) (l2:=[(m,fG (dO at')),(b,dN.d (Dq c ns kvs nm at')),(sh,dN.l ((jT (fY c at')).map λp=>V.s p.1.q))]) [2,1,0] rfl rfl) λx=>pk (l:=[(sh,dN.l ((jT (fY c at')).map λp=>V.s p.1.q)),(b,dN.d (Dq c ns kvs nm at')),(m,fG (dO at')),(x 0,dN.l ((jT (fY c at')).map λp=>V.t [.s (Qs (za c (sx c ps nm at').2) p.1),.s p.2]))]) (l2:=[(m,fG (dO at')),(b,dN.d (Dq c ns kvs nm at')),(sh,dN.l ((jT (fY c at')).map λp=>V.s p.1.q)),(x 0,dN.l ((jT (fY c at')).map λp=>V.t [.s (Qs (za c (sx c ps nm at').2) p.1),.s p.2]))]) [2,1,0,3] rfl rfl)
  v8l
  (λb sh us nw ro=>ZZ.perm agE (.swap ..) λU=>.swap ..)
  (λb sh us nw ro=>ZZ.perm (ab7 h.path hp z hg0 hg1) (.swap ..) λU=>.swap ..)
  (λb sh us nw ro=>by
   have:=aat Y c (oA rs++R) ky lo td o kp ps.due se pa nd b nm.q m sh us nw ro (Cp c at') w.2 hrl;rw[<- G,ah9]at this;exact this)
  ahU K hd N
 intro _ P H hH;obtain⟨x,H',e,t⟩:=k P H hH;have edu:ps.due++"<"++lF (za c (sx c ps nm at').2 nm.uri) nm.tag++jn ((gR c (sx c ps nm at') (fY c at')).map rS)++">"=(ps.start c nm at').due:=by
  show _=ps.due++w7 (gY c (sx c ps nm at').2 nm.uri nm.tag) (gR c (sx c ps nm at') (fY c at'));rewrite [xV,qP,Fv,dj,dj,dj,dj,dj];rfl
 rw[edu]at e;refine⟨.next,_,_,H',hQ (x 1) (x 2) _ (uy (m:=[("kind",.s "start"),("what",.s nm.q),("more",.r m),("shown",.r (x 0)),("used",.r (x 2)),("new",.r (x 3)),("rows",.r (x 4)),("space",.s (Cp c at'))])),e,t.to (List.Perm.trans ?_ (pk (l:=[(lo,dN.l (c.fj.map .s)),(ky,.l gj),(m,fG (dO at')),(nd,.l (ns.map V.s++((lg c nm at').filter λu=>!ns.contains u).map .s)),(x 1,.d (Dq c ns kvs nm at')),(pa,.l (mC rs++[lQ (lF (za c (sx c ps nm at').2 nm.uri) nm.tag) (x 2) (if(Cp c at').length=0 then iD ps.path else Cp c at'=="preserve")])),(x 2,.l ((lg c nm at').map .s))]) (l2:=[(pa,dN.l (mC rs++[lQ (lF (za c (sx c ps nm at').2 nm.uri) nm.tag) (x 2) (if(Cp c at').length=0 then iD ps.path else Cp c at'=="preserve")])),(lo,.l (c.fj.map .s)),(ky,.l gj),(nd,.l (ns.map V.s++((lg c nm at').filter λu=>!ns.contains u).map .s)),(x 1,.d (Dq c ns kvs nm at')),(x 2,.l ((lg c nm at').map .s)),(m,fG (dO at'))]) [5,0,1,3,4,6,2] rfl rfl))⟩;have epa:mC rs++[lQ (lF (za c (sx c ps nm at').2 nm.uri) nm.tag) (x 2) (if(Cp c at').length=0 then iD ps.path else Cp c at'=="preserve")]=mC (rs++[(tD c ps nm at',x 2)]):=by
  rw[xV,Q8];exact(aH (f:=λp:PR×Nat=>lQ p.1.f p.2 p.1.pb) (l₂:=[(tD c ps nm at',x 2)])).symm
 rw[epa,L];show([(pa,dN.l (mC (rs++[(tD c ps nm at',x 2)]))),(lo,.l (c.fj.map .s)),(ky,.l gj),(nd,.l ((xR c ns nm at').map .s)),(x 1,.d (Dq c ns kvs nm at'))]++(oA (rs++[(tD c ps nm at',x 2)])++([(m,fG (dO at'))]++R))).Perm ([(pa,dN.l (mC (rs++[(tD c ps nm at',x 2)]))),(lo,.l (c.fj.map .s)),(ky,.l gj),(nd,.l ((xR c ns nm at').map .s)),(x 1,.d (Dq c ns kvs nm at'))]++([(x 2,dN.l ((lg c nm at').map .s))]++([(m,fG (dO at'))]++(oA rs++R))));rw[show oA (rs++[(tD c ps nm at',x 2)])=oA rs++[(x 2,.l ((lg c nm at').map .s))]from aH,aQ];exact List.Perm.append_left _ (pA (oA rs) [(x 2,dN.l ((lg c nm at').map .s))] [(m,fG (dO at'))] R)
end
section
section
variable {pe:Pe} {n:Nat} {J:Loc} {L1:LH} {Q Q':Fl->Loc->LH->Prop}
def XP.tos(h:XP pe n O J body L Q)(b:∀fl J l,Q fl J l->Ex2 λl1 l2=>l1.Sublist l/\l2.Perm l1/\Q' fl J l2):XP pe n O J body L Q':=λU P H a=>by
 obtain⟨fl,dI,l',H',q,e,t⟩:=h P H a;obtain⟨l1,l2,h1,c,d⟩:=b _ _ _ q;exact⟨fl,dI,l2,H',d,e,(t.sub h1).to c⟩
end
variable {R:LH} {ps:PS} {rs:List (PR×Nat)} {ns:List Str} {o kp:Nat} {n:Nat}
def S2.same(h:S2 c ps rs ns kvs)(h1:ps2.path=ps.path)(e:ps2.A=ps.A):S2 c ps2 rs ns kvs:=by
 obtain⟨due,seen,path,A⟩:=ps;obtain⟨d,b,a,A2⟩:=ps2;cases h1;cases e;exact⟨h.path,h.num,h.nsA,h.nd,h.nu,h.kv,h.kl,h.pi,h.dom,h.fl,h.ul⟩
theorem S2.pop{rs:List (PR×Nat)}{p:PR×Nat}(h:S2 c ps (rs++[p]) ns kvs):ps.path=p.1::rs.reverse.map (·.1)/\∀ps2:PS,ps2.path=ps.path.tail->ps2.A=ps.A->S2 c ps2 rs ns kvs:=by
 have hp:ps.path=p.1::rs.reverse.map (·.1):=by
  have a:=congrArg List.reverse h.path;rw[List.reverse_reverse,aH,List.reverse_append]at a;exact dD▸a.symm
 refine⟨hp,λps2 h1 a=>?_⟩;rw[hp]at h1;have h1:ps2.path=rs.reverse.map (·.1):=h1;have d:∀r∈ps2.path,r∈ps.path:=λr b=>by rw[hp,<- h1];exact .tail _ b
 refine⟨by rw[h1,dD,List.reverse_reverse],a▸h.num,λhc=>a▸h.nsA hc,h.nd,h.nu,h.kv,h.kl,?_,λhc u e=>?_,λr b=>h.fl r (d r b),λr b=>h.ul r (d r b)⟩
 have:=h.pi;rw[hp,<- h1]at this;exact this.2
 rw[a];refine h.dom hc u ?_;rw[hp,<- h1];rcases aD e with q|q
 exact cH _ (aG _ q)
 exact aG _ q
inductive J2 (c:Cf) (ky lo td o kp pa nd:Nat) (X:LH) (ps:PS) (J:Loc) (l:LH):Prop
 |mk (pf:Nat) (rs:List (PR×Nat)) (ns:List Str) (kvs:List (Str×V)) (h:S2 c ps rs ns kvs) (hl:∀y v,(Wn c ky lo td o kp ps.due ps.seen pa nd pf).lookup y=some v->J.lookup y=some v) (e:l=H2 c ky lo nd pf pa ns kvs rs X):J2 c ky lo td o kp pa nd X ps J l
set_option backward.match.sparseCases false in
noncomputable abbrev ip2(o:Option Stmt):Pos:=(o.elim (⟨0,0,0,0⟩:Pos) λs=>match s with
 |.If _ _ _ p=>p
 |_=>⟨0,0,0,0⟩)
def LQ(Y:Z):BX Y=[.If (sO (BX Y)[0]?).1 (gJ (BX Y)[0]?) (Bc Y) (ip2 (BX Y)[0]?)]/\Bc Y=[.If (sO (Bc Y)[0]?).1 (iw Y) (Ed Y) (ip2 (Bc Y)[0]?)]/\Ed Y=[.If (sO (Ed Y)[0]?).1 (gJ (Ed Y)[0]?) (yG Y) (ip2 (Ed Y)[0]?)]/\yG Y=[.If (sO (yG Y)[0]?).1 (mL Y) (sO (yG Y)[0]?).2.2.1 (ip2 (yG Y)[0]?)]:=⟨by kernel_rfl,by kernel_rfl,by kernel_rfl,by kernel_rfl⟩
abbrev T2(Y:Z)(c:Cf)(ky lo td o kp pa nd pf:Nat)(ns:List Str)(kvs:List (Str×V))(rs:List (PR×Nat))(X:LH)(ps:PS)(kd:Str)(w m:V)(ps2:PS):Prop:=XP (dK Y) 146 (dZ Y 195) (qL c ky lo td o kp ps.due ps.seen pa nd pf kd w m) (BX Y) (H2 c ky lo nd pf pa ns kvs rs X) λfl J l=>fl=.next/\J2 c ky lo td o kp pa nd X ps2 J l
theorem J6{w m:V}(h1:(kd=="data")=false)(b:(kd=="start")=false)(h3:(kd=="end")=false)(k:TT (dK Y) 142 (dZ Y 195) (qL c ky lo td o kp ps.due ps.seen pa nd pf kd w m) ((sO (yG Y)[0]?).1) ([]++H2 c ky lo nd pf pa ns kvs rs X) (λnw=>true) (λnw=>[]++H2 c ky lo nd pf pa ns kvs rs X))(h:XP (dK Y) 142 (dZ Y 195) (qL c ky lo td o kp ps.due ps.seen pa nd pf kd w m) (mL Y) (H2 c ky lo nd pf pa ns kvs rs X) λfl J l=>fl=.next/\J2 c ky lo td o kp pa nd X ps2 J l):T2 Y c ky lo td o kp pa nd pf ns kvs rs X ps kd w m ps2:=by
 obtain⟨a,f,d,e⟩:=LQ Y;show XP _ _ _ _ _ _ _;rw[a];refine XP.ite (abT h1) ?_;rw[f];refine XP.ite (agB b) ?_;rw[d];refine XP.ite (agA h3) ?_;rw[e];exact XP.ite k h
theorem pH(h:S2 c ps rs ns kvs):(ps.path=[]/\rs=[])\/∃b p,rs=b++[p]/\ps.path≠[]/\iD ps.path=p.1.pb/\mC rs=mC b++[lQ p.1.f p.2 p.1.pb]/\oA rs=oA b++[(p.2,.l (p.1.us.map .s))]/\b.length<ps.path.length:=by
 cases hr:rs with
 |nil=>
  refine .inl ⟨?_,rfl⟩;have:=h.path;rw[hr]at this;exact List.reverse_eq_nil_iff.mp this.symm
 |cons a l=>
  obtain⟨b,p,h0⟩:=lH rs (hr▸dG _ _);rw[<- hr];subst h0;obtain⟨k1,_⟩:=h.pop;refine .inr ⟨b,p,rfl,by rw[k1];exact dG _ _,by rw[k1];rfl,aH,aH,?_⟩;rw[k1,aO,aB,cW];exact aN _
def Eb{x:Str}(h:x.length<=1000):(eV x).length<=6000:=aK (qp rfl rfl) (Nat.mul_le_mul_left 6 h)
theorem V2{w m:V}{mk:Str}(h:S2 c ps rs ns kvs)(g:mk.length<1000000)(hd:ps.due.length<10000000):XP (dK Y) 142 (dZ Y 195) (lcm c ky lo td o kp ps.due ps.seen pa nd pf kd w m mk) ((mL Y).drop 2) (H2 c ky lo nd pf pa ns kvs rs X) λfl J l=>fl=.next/\J2 c ky lo td o kp pa nd X (ps.mk' mk) J l:=by
 have f:S2 c (ps.mk' mk) rs ns kvs:=h.same rfl rfl
 have fin:∀d,d=(ps.mk' mk).due->∀y v,(Wn c ky lo td o kp (ps.mk' mk).due ps.seen pa nd pf).lookup y=some v->(lcm c ky lo td o kp d ps.seen pa nd pf kd w m mk).lookup y=some v:=λd e=>by
  exact e▸uy
 have a:(ps.mk' mk).due=ps.due++(if ps.path≠[]then mk else if ps.seen=true then"\n"++mk else mk++"\n"):=rfl;rcases pH h with⟨hp,rfl⟩|⟨j,p,rfl,hp,_,i,_⟩
 ·rw[if_neg λq=>q hp]at a;by_cases b:ps.seen=true
  ·rw[if_pos b]at a;exact XP.of (adu (ps:=[]) (v:=.n) b g hd) λU=>⟨rfl,pf,[],ns,kvs,f,fin _ a.symm,rfl⟩
  ·rw[if_neg b]at a;exact XP.of (adt (ps:=[]) (v:=.n) (by simpa using b) g hd) λU=>⟨rfl,pf,[],ns,kvs,f,fin _ a.symm,rfl⟩
 ·rw[if_pos hp]at a;unfold H2;rw[i];exact XP.of (adv g hd) λU=>⟨rfl,pf,_,ns,kvs,f,fin _ a.symm,by unfold H2;rw[i]⟩
def Pb{x:Str}(h:x.length<=1000):(Bm x).length<=19000:=by
 unfold Bm;rw[fJ,fJ];exact aK (dg (dg (show("<!--":Str).length<=4 from fM rfl) (Eb h)) (show("-->":Str).length<=3 from fM rfl)) ()
theorem Wa(h:∀y,x=some y->y.length<=3):(Qj x).length<=19000:=by
 have key:(x.elim cJ λy=>if y.length=0 then cJ else" "++eV y).length<=6001:=by
  induction x using Option.casesOn with
  |none=>exact bN _
  |some y=>
   show(if y.length=0 then cJ else" "++eV y).length<=6001;by_cases h0:y.length=0
   ·exact(if_pos h0)▸bN _
   ·rw[if_neg h0,fJ,Nat.add_comm];exact dg (Eb (aK (h y rfl) ())) (show(" ":Str).length<=1 from fM rfl)
 unfold Qj;rw[fJ,fJ];exact aK (dg (dg (show("<?t":Str).length<=3 from fM rfl) key) (show("?>":Str).length<=2 from fM rfl)) ()
theorem abP{x:Option Str}{w:V}{mk:Str}(h:∀y,x=some y->y.length<=1000):PX (dK Y) 142 (dZ Y 195) ((mL Y).drop 1) (((mL Y).drop 1).drop 1) (lcm c ky lo td o kp ps.due ps.seen pa nd pf "pi" w (oV x) mk) ([]++R) (λnw=>lcm c ky lo td o kp ps.due ps.seen pa nd pf "pi" w (oV x) (Qj x)) (λnw=>[]++R):=by
 induction x using Option.casesOn with
 |none=>
  exact adx
 |some y=>
  by_cases h0:y.length=0
  rw[jQ h0];exact adz
  rw[show Qj (some y)="<?t"++(" "++eV y)++"?>" by
   show"<?t"++(if y.length=0 then cJ else" "++eV y)++"?>"=_;rw[if_neg h0]];exact adw (h y rfl) ()
theorem abD{e:E5}(h:S2 c ps rs ns kvs)(ok:Ql D n ps e)(hn:n<=320)(hD:∀x∈D,x∈X)(hd:ps.due.length<10000000)(hp:ps.path.length<900):T2 Y c ky lo td o kp pa nd pf ns kvs rs X ps (lC e).1 (lC e).2.1 (lC e).2.2 (PS.step c ps e):=by
 cases e with
 |told a b=>exact XP.of (U9 (R:=H2 c ky lo nd pf pa ns kvs rs X)) λU=>⟨rfl,pf,rs,ns,kvs,h,uy (m:=[("kind",.s "told"),("what",.s a),("more",.s b)]),rfl⟩
 |com x=>
  have M:x.length<=1000:=aK ok ();refine J6 kd5 (show(("comment":Str)=="start")=false by decide) (show(("comment":Str)=="end")=false by decide) abR ?_;refine(adA (R:=H2 c ky lo nd pf pa ns kvs rs X) M).QK λU=>?_;refine(ady (R:=H2 c ky lo nd pf pa ns kvs rs X)).QK λU=>?_;exact V2 h (aU (Pb M) ()) hd
 |pi x=>
  refine J6 kd4.1 (show(("pi":Str)=="start")=false by decide) (show(("pi":Str)=="end")=false by decide) abQ ?_;refine(adA (x:="t") (R:=H2 c ky lo nd pf pa ns kvs rs X) ()).QK λU=>?_;refine(abP (R:=H2 c ky lo nd pf pa ns kvs rs X) λy q=>aK (ok y q) ()).QK λU=>?_;exact V2 h (aU (Wa ok) ()) hd
 |dat x=>
  have M:x.length<=1000:=aK ok ();have F:=h3 M
  have sub:∀G,G=(PS.step c ps (.dat x)).due->∀y v,(Wn c ky lo td o kp (PS.step c ps (.dat x)).due ps.seen pa nd pf).lookup y=some v->(qL c ky lo td o kp G ps.seen pa nd pf "data" (.s x) .n).lookup y=some v:=λG e=>by
   rw[e];exact uy (m:=[("kind",.s "data"),("what",.s x),("more",.n)])
  obtain⟨s1,s2,s3⟩:=mV (c:=c) ps x;have hs:=h.same s1 s2;have i:PS.step c ps (.dat x)=if ps.path=[]then ps else{ps with due:=ps.due++eV (pZ c (iD ps.path) x)}:=rfl;rcases pH h with⟨hp,rfl⟩|⟨j,p,rfl,hp,ht,H,_⟩
  rw[if_pos hp]at i;exact XP.of (aiE (x:=x) (m:=.n)) λU=>⟨rfl,pf,[],ns,kvs,hs,by rw[s3];exact sub _ (by rw[i]),rfl⟩
  rw[if_neg hp,ht]at i;have fin:∀z,z=pZ c p.1.pb x->XS (dK Y) 146 (dZ Y 195) (qL c ky lo td o kp ps.due ps.seen pa nd pf "data" (.s x) .n) (BX Y) ([(pa,.l (mC j++[lQ p.1.f p.2 p.1.pb]))]++([(lo,.l (c.fj.map .s)),(ky,.l gj),(nd,.l (ns.map .s)),(pf,.d kvs)]++(oA (j++[p])++X))) (λnw=>.next) (λnw=>qL c ky lo td o kp (ps.due++eV z) ps.seen pa nd pf "data" (.s x) .n) (λnw=>[(pa,.l (mC j++[lQ p.1.f p.2 p.1.pb]))]++([(lo,.l (c.fj.map .s)),(ky,.l gj),(nd,.l (ns.map .s)),(pf,.d kvs)]++(oA (j++[p])++X)))->T2 Y c ky lo td o kp pa nd pf ns kvs (j++[p]) X ps "data" (.s x) .n (PS.step c ps (.dat x)):=λz hz k=>by
   show XP _ _ _ _ _ (H2 ..) _;unfold H2;rw[H];exact XP.of k λU=>⟨rfl,pf,_,ns,kvs,hs,by rw[s3];exact sub _ (by rw[i,hz]),by unfold H2;rw[H]⟩
  unfold pZ at fin;cases hc:c.st with
  |false=>rw[hc]at fin;exact fin x rfl (aiC hc F hd)
  |true=>
   rw[hc]at fin;cases hb:p.1.pb with
   |true=>rw[hb]at fin;exact fin x rfl (aiB hc rfl F hd)
   |false=>rw[hb]at fin;exact fin _ rfl (aiD hc rfl F hd)
 |fin t=>
  have ok:ps.path≠[]:=ok;rcases pH h with⟨hp,rfl⟩|⟨j,p,rfl,_,ht,H,P,hl⟩
  exact absurd hp ok
  obtain⟨k1,k2⟩:=h.pop;have i:PS.step c ps (.fin t)={ps with due:=ps.due++nq p.1.f,path:=ps.path.tail}:=by
   show ps.path.head?.elim _ _=_;rw[k1];rfl
  have hf:p.1.f.length<10000:=h.fl p.1 (by rw[k1];exact .head _);show XP _ _ _ _ _ (H2 ..) _;unfold H2;rw[H];refine(XP.of (aaG (ps:=mC j) (g:=p.1.f) (u:=p.2) (b:=p.1.pb) (w:=.s t.q) (m:=.n) (by unfold mC;rw[aB];exact cA hl hp) hf hd) (Q:=λfl J l=>fl=.next/\J=qL c ky lo td o kp (ps.due++nq p.1.f) ps.seen pa nd pf "end" (.s t.q) .n/\l=[(pa,.l (mC j))]++([(lo,.l (c.fj.map .s)),(ky,.l gj),(nd,.l (ns.map .s)),(pf,.d kvs)]++(oA (j++[p])++X))) λU=>⟨rfl,rfl,rfl⟩).tos λfl J l hq=>?_;obtain⟨rfl,rfl,rfl⟩:=hq;refine⟨_,_,?_,.refl _,rfl,pf,j,ns,kvs,k2 _ (by rw[i]) (by rw[i]),?_,rfl⟩
  rw[P];exact List.Sublist.append_left (List.Sublist.append_left (List.Sublist.append_right (cY ..) _) _) _
  rw[i];exact uy (m:=[("kind",.s "end"),("what",.s t.q),("more",.n)])
 |start nm m at'=>
  obtain⟨K,I,Z,N⟩:=ok;obtain⟨E,X2,rfl⟩:=List.append_of_mem (hD _ N);obtain⟨H,P,_,_⟩:=LQ Y;show XP _ _ _ _ (BX Y) _ _;rw[H];refine XP.ite (abT (R:=H2 c ky lo nd pf pa ns kvs rs (E++(m,fG (dO at'))::X2)) kd2.1) ?_;rw[P];refine XP.ite (abS (R:=H2 c ky lo nd pf pa ns kvs rs (E++(m,fG (dO at'))::X2))) ?_;have pX:∀(B:Nat) (C:List Str) (A:List (Str×V)) (r:List (PR×Nat)),(H2 c ky lo nd B pa C A r (E++(m,fG (dO at'))::X2)).Perm (H2 c ky lo nd B pa C A r ((m,fG (dO at'))::(E++X2))):=λU U U U=>List.Perm.append_left _ (List.Perm.append_left _ (List.Perm.append_left _ cG));have p0:(H2 c ky lo nd pf pa ns kvs rs ((m,fG (dO at'))::(E++X2))).Perm ([(lo,dN.l (c.fj.map .s)),(ky,.l gj),(m,fG (dO at')),(nd,.l (ns.map .s)),(pf,.d kvs),(pa,.l (mC rs))]++(oA rs++(E++X2))):=by
   refine List.Perm.trans ?_ (pk (l:=[(lo,dN.l (c.fj.map .s)),(ky,.l gj),(m,fG (dO at')),(nd,.l (ns.map .s)),(pf,.d kvs),(pa,.l (mC rs))]) (l2:=[(pa,.l (mC rs)),(lo,.l (c.fj.map .s)),(ky,.l gj),(nd,.l (ns.map .s)),(pf,.d kvs),(m,fG (dO at'))]) [5,0,1,3,4,2] rfl rfl);exact List.Perm.append_left [(pa,dN.l (mC rs)),(lo,.l (c.fj.map .s)),(ky,.l gj),(nd,.l (ns.map .s)),(pf,.d kvs)] (qt (oA rs) [(m,fG (dO at'))] (E++X2))
  refine XP.perm ?_ ((pX _ _ _ _).trans p0);refine(J5 h K I Z hd hp (se:=ps.seen) (Q:=λfl J l=>fl=.next/\J2 c ky lo td o kp pa nd ((m,fG (dO at'))::(E++X2)) (ps.start c nm at') J l) λS us J L=>⟨rfl,S,_,_,_,h.start K I us,L,rfl⟩).to λfl J l hq=>?_;obtain⟨rfl,B,r,C,A,a1,a2,rfl⟩:=hq;exact⟨_,pX _ _ _ _,rfl,B,r,C,A,a1,a2,rfl⟩
end
section
open To
variable {R:LH}
def adD{o kp:Nat}{px:Nat}{l:List Str}(d:JoinOk cJ l=true):XS (dK Y) 147 (dZ Y 195) (Wn c ky lo td o kp du se pa nd px) ((fW Y).drop 13) ([(o,.l (l.map .s))]++R) (λnw=>.ret (.b (jn l==du))) (λnw=>Wn c ky lo td o kp du se pa nd px) (λnw=>[(o,.l (l.map .s))]++R):=XS.go [n 0,.strs l,.keep [0]] (λU f=>dH o<|a (gb l)<|a (d)<|f (λU=>0))
end
section
variable {R:LH} {ps:PS} {rs:List (PR×Nat)} {ns:List Str} {o kp:Nat} {n:Nat} {at':List (N5×Str)}
theorem S2.tag(h:S2 c ps rs ns kvs)(e:nm∈iz)(b:fO at')(j:∀p∈at',p.2.length<20):(w7 (gY c (sx c ps nm at').2 nm.uri nm.tag) (gR c (sx c ps nm at') (fY c at'))).length<=20000:=by
 have i:∀u∈(sx c ps nm at').1,u∈uU:=λu d=>by
  rw[h.Xw e b]at d;exact(jw (bF d).1).1
 have a:(sx c ps nm at').1.length<=5:=by
  rw[h.Xw e b];exact aK (dF _ _) (aK abw ())
 have f:=h.RX e b;have g:∀u∈(sx c ps nm at').1,u∈U5:=λu d=>(by decide+kernel:∀u∈uU,u∈U5) u (i u d);exact Xu (DR f e) (Pq (KQ f g a (b.fY c) λp hp=>j p (bF hp).1) (tY f g a (b.fY c)).2)
def sZ{d x:Str}(h:x.length<=20000):(d++x).length<=d.length+20000:=by rw[fJ];exact cM h _
def O1{m:Str}(h:m.length<=19000):(ps.mk' m).due.length<=ps.due.length+20000:=by
 refine sZ (d:=ps.due) ?_;have h1:("\n"++m).length<=20000:=by rw[fJ];exact aK (dg nl1 h) ()
 have c:(m++"\n").length<=20000:=by rw[fJ];exact aK (dg h nl1) ()
 by_cases a:ps.path≠[]
 ·rw[if_pos a];exact aK h ()
 rw[if_neg a];by_cases b:ps.seen=true
 ·rw[if_pos b];exact h1
 ·rw[if_neg b];exact c
theorem aay{e:E5}(h:S2 c ps rs ns kvs)(ok:Ql D n ps e)(o:n<=320):(PS.step c ps e).due.length<=ps.due.length+20000/\(PS.step c ps e).path.length<=ps.path.length+1:=by
 cases e with
 |told a b=>exact⟨Nat.le_add_right ..,cF _⟩
 |com x=>exact⟨O1 (Pb (aK ok ())),cF _⟩
 |pi x=>exact⟨O1 (Wa ok),cF _⟩
 |dat x=>
  obtain⟨s1,_,_⟩:=mV (c:=c) ps x;refine⟨?_,by rw[s1];exact cF _⟩;show(if ps.path=[]then ps else _).due.length<=_;by_cases hp:ps.path=[]
  ·rw[if_pos hp];exact Nat.le_add_right ..
  ·rw[if_neg hp];refine sZ (d:=ps.due) (aK (Eb ?_) ());have ok:x.length<=3*n:=ok;have h1:x.length<=1000:=by lia
   unfold pZ;cases c.st&&!iD ps.path with
   |true=>exact aK (mU x) h1
   |false=>exact h1
 |fin t=>
  have ok:ps.path≠[]:=ok;rcases pH h with⟨hp,rfl⟩|⟨l,p,rfl,_,_,_,_,_⟩
  ·exact absurd hp ok
  obtain⟨k1,_⟩:=h.pop;have g:PS.step c ps (.fin t)={ps with due:=ps.due++nq p.1.f,path:=ps.path.tail}:=by
   show ps.path.head?.elim _ _=_;rw[k1];rfl
  have hf:p.1.f.length<10000:=h.fl p.1 (by rw[k1];exact .head _);rw[g];refine⟨sZ (d:=ps.due) ?_,by show ps.path.tail.length<=_;rw[List.length_tail];exact aK (Nat.sub_le ..) (cF _)⟩;unfold nq;rw[fJ,fJ];exact aK (dg (dg (show("</":Str).length<=2 from fM rfl) (cj hf)) q2) ()
 |start nm m at'=>
  obtain⟨j,i,k,_⟩:=ok;exact⟨sZ (d:=ps.due) (h.tag j i k),bT _⟩
theorem adG{K:List E5}(w:KW c D n K)(g:n<=320)(hl:K.length<=320)(hD:∀x∈D,x∈X):∀{l2 K0:List E5} {rs:List (PR×Nat)} {ns:List Str} {kvs:List (Str×V)} {pf:Nat},K=K0++l2->S2 c (d9 c K0) rs ns kvs->(d9 c K0).due.length<=20000*K0.length->(d9 c K0).path.length<=K0.length ->
  FQ (dK Y) 146 (dZ Y 195) (uP (fW Y)[12]?) (BX Y) (l2.map gP) (Wn c ky lo td o kp (d9 c K0).due (d9 c K0).seen pa nd pf) (H2 c ky lo nd pf pa ns kvs rs X) (λJ l=>J2 c ky lo td o kp pa nd X (d9 c K) J l/\(d9 c K).due.length<=20000*K.length):=by
 intro l2
 induction l2 with
 |nil=>
  intro K0 rs ns kvs pf d h hd _;rw[aX]at d;subst d;exact FQ.nil ⟨⟨pf,rs,ns,kvs,h,λU U q=>q,rfl⟩,hd⟩
 |cons e l2 ih=>
  intro K0 rs ns kvs pf d h hd hp;have hk:K0.length<320:=by
   have:=congrArg List.length d;rw[aC,aO]at this;lia
  have ok:=w K0 e l2 d;obtain⟨m,j⟩:=aay h ok g;rw[cC,yE];refine FQ.cons (λU U=>rfl) ((abD h ok g hD () ()).imp λfl J l p=>?_);obtain⟨rfl,k,t,s,r,a,b,rfl⟩:=p;refine⟨rfl,FQ.forget b ?_⟩;have i:=fB (c:=c) (K:=K0) e;have f:(K0++[e]).length=K0.length+1:=aC;rw[<- i]at a m j;rw[<- i];exact ih (by rw[d,aQ];rfl) a () ()
def agM(c:Cf):S2 c ps0 [] [] (pT c):=⟨rfl,⟨.nil,λU h=>nomatch h⟩,λU=>rfl,.nil,(λU h=>nomatch h),λU=>.inl rfl,show 3<=10 by decide,trivial,λU u a=>.inr (au a),(λU h=>nomatch h),(λU h=>nomatch h)⟩
def pkF{ls l2:List LH}(is:List Nat)(h1:is.isPerm (List.range ls.length)=true)(a:(is.filterMap λi=>ls[i]?)=l2):l2.flatten.Perm ls.flatten:=(a▸V9 (List.isPerm_iff.mp h1)).flatten
def aed:yW (dK Y) 195 1 [] [("script",.arg 0)] (dZ Y 195) (fQ Y 195):=⟨_,aaf Y.P Y.sa Y.is,X5 Y.P,by kernel_rfl,rfl⟩
def acS{e h k a g l y t:Nat×dN}{A N:LH}:([e]++([h,k,a,g]++(A++(B++(D++(N++[l,y,t])))))).Perm ([t]++([l,y,k]++(A++(B++(D++(N++[e,h,a,g])))))):=(pkF (ls:=[[e],[h],[k],[a],[g],A,B,D,N,[l],[y],[t]]) (l2:=[[t],[l],[y],[k],A,B,D,N,[e],[h],[a],[g]]) [11,9,10,2,5,6,7,8,0,1,3,4] (by kernel_rfl) rfl).symm
def acR{e h k a g l y t p n f:Nat×dN}{A N:LH}:([t,p,n,f]++([l,y,k]++(A++(B++(D++(N++[e,h,a,g])))))).Perm ([k]++([p]++([l,y,n,f]++([]++(A++(B++(D++(N++[t,e,h,a,g])))))))):=(pkF (ls:=[[t],[p],[n],[f],[l],[y],[k],A,B,D,N,[e],[h],[a],[g]]) (l2:=[[k],[p],[l],[y],[n],[f],A,B,D,N,[t],[e],[h],[a],[g]]) [6,1,4,5,2,3,7,8,9,10,0,11,12,13,14] (by kernel_rfl) rfl).symm
theorem adU(hl:Y.is.length<=63):XQ (dK Y) 147 (dZ Y 195) [("script",.f Y.sa)] (fW Y) [(0,.t 116 fP)] λv l=>v=.b true/\(0,dN.t 116 fP)∈l:=by
 refine adV hl λc ky gn lo td ev x evs J l hE n=>?_;obtain⟨t,a,K,hd,tq,i,g⟩:=n;refine XQ.forget (SX i) ?_;have hk:=tq.kl;have he:=hE.len;generalize hD:iK evs=D at*;generalize L:Df c (gx x)=N at*;generalize r:tg c (qX x) (t.s c (xT c (gx x)))=A;generalize I:t.R c=B;have p1:(l++[(ev,dN.l (eZ c.ba++evs.map gP))]).Perm ([(td,dN.l (eZ c.ba))]++([(lo,dN.l (c.fj.map .s)),(ky,.l gj),(x 1,dN.l (K.map gP))]++(A++(B++(D++(N++[(ev,dN.l (eZ c.ba++evs.map gP)),(hd,dN.l (a.map .b)),(x 2,dN.d (gk (qX x))),(gn,dN.l (g8.map .s))])))))):=by
  refine(List.Perm.append_right _ g).trans (List.perm_append_comm.trans ?_);unfold HL KN;rw[r,I,L];exact acS
 refine XQ.perm ?_ p1;refine(adE (R:=[(lo,dN.l (c.fj.map .s)),(ky,.l gj),(x 1,dN.l (K.map gP))]++(A++(B++(D++(N++[(ev,dN.l (eZ c.ba++evs.map gP)),(hd,dN.l (a.map .b)),(x 2,dN.d (gk (qX x))),(gn,dN.l (g8.map .s))])))))).vh λy=>?_;generalize m:A++(B++(D++(N++[(td,dN.l (eZ c.ba)),(ev,dN.l (eZ c.ba++evs.map gP)),(hd,dN.l (a.map .b)),(x 2,dN.d (gk (qX x))),(gn,dN.l (g8.map .s))])))=X;have p2:([(td,dN.l (eZ c.ba)),(y 0,.l []),(y 1,.l []),(y 2,dN.d (pT c))]++([(lo,dN.l (c.fj.map .s)),(ky,.l gj),(x 1,dN.l (K.map gP))]++(A++(B++(D++(N++[(ev,dN.l (eZ c.ba++evs.map gP)),(hd,dN.l (a.map .b)),(x 2,dN.d (gk (qX x))),(gn,dN.l (g8.map .s))])))))).Perm (H2 c ky lo (y 1) (y 2) (y 0) [] (pT c) [] X++[(x 1,dN.l (K.map gP))]):=by
  refine List.Perm.trans ?_ c7;rw[<- m];exact acR
 refine XQ.perm ?_ p2;have F:∀z∈D,z∈X:=λz hz=>by
  rw[<- m];exact aG _ (aG _ (cH _ hz))
 have lp:=adG (Y:=Y) (ky:=ky) (lo:=lo) (td:=td) (o:=(qX x).o) (kp:=x 1) (pa:=y 0) (nd:=y 1) (X:=X) tq.kw () () F (l2:=K) (K0:=[]) (pf:=y 2) rfl (agM c) (bN _) (bN _);have H:=PQ.Z8 (pos:=(fp (fW Y)[12]?)) (b:=(fW Y).drop 13) (p:=x 1) rfl (EE.name (x:="kept") (p:=np (fW Y)[12]?) rfl) lp;refine H.vh λeE l1 u=>?_;obtain⟨l0,rfl,⟨C,q,E,w,a1,P,rfl⟩,M⟩:=u;refine XQ.forget P ?_;have k:((qX x).o,dN.l (t.out.map .s))∈X:=by
  rw[<- m,<- r];exact cH _ (.tail _ (.tail _ (.tail _ (.head _))))
 have j:(0,dN.t 116 fP)∈X:=by
  rw[<- m,<- r];exact cH _ (.head _)
 have h:∀z∈X,z∈H2 c ky lo (y 1) C (y 0) E w q X++[(x 1,dN.l (K.map gP))]:=λz hz=>cH _ (aG _ (aG _ (aG _ hz)));obtain⟨L1,L2,n⟩:=List.append_of_mem (h _ k);have G:=h _ j;rw[n];rw[n]at G;refine XQ.perm ?_ (cG (l₁:=L1) (l₂:=L2));have e:(d9 c K).due=cat t.out:=by
  have:=tq.ki.due;obtain⟨S,s1,s2⟩:=tq.ki.stk;have hf:t.fs=[]:=by
   have s1:([]:List N5)=S++t.p.map (·.t):=s1;have V:=(List.append_eq_nil_iff.mp s1.symm).2;exact List.map_eq_nil_iff.mp (List.map_eq_nil_iff.mp V)
  rw[if_pos hf,dz]at this;exact this
 have Q:JoinOk cJ t.out=true:=qO (by
  rw[<- e];lia)
 refine(XQ.ofS (v:=λU=>.b (jn t.out==(d9 c K).due)) (adD (R:=L1++L2) (l:=t.out) Q) (λU=>rfl)).tos λv l Z=>?_;obtain⟨_,rfl,rfl⟩:=Z;refine⟨_,_,.refl _,.refl _,?_,?_⟩
 rw[qP,e,bA]
 exact(cG (l₁:=L1) (l₂:=L2)).mem_iff.mp G
theorem Rq(Y:Z)(hl:Y.is.length<=63) ⦃cx:Cx⦄ (P:eY (dK Y) cx):∃H',gV cx 150 (.f 195) [.f Y.sa] [] H0 (.b true) H'/\H'.f 0=.t 116 fP:=by
 have key:CQ (dK Y) 148 (.f 195) [.f Y.sa] [] [(0,.t 116 fP)] λv l=>v=.b true/\(0,dN.t 116 fP)∈l:=CQ.ofF aed rfl rfl (adU hl);obtain⟨v,l,H',⟨rfl,h0⟩,e,t⟩:=key P H0 ⟨λp hp=>by rw[au hp];exact⟨Nat.zero_lt_one,rfl⟩,List.nodup_cons.mpr ⟨cR,.nil⟩⟩;exact⟨H',Di () e,(t.has.el _ h0).2⟩
def rw_dr0138_05_holds:PySem.Challenge.rw_dr0138_05.Holds:=Z0 λP sa is hl U a=>Rq ⟨P,sa,is⟩ hl a
end
end
end Mine.Internal
end
open PySem PySem.W PyProof.Rows
theorem PySem.Challenge.cw_dr0138_05_holds : PySem.Challenge.rw_dr0138_05.Holds := by
 exact Mine.Internal.rw_dr0138_05_holds
